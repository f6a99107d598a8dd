
import JvmDerived
import JvmDerived.Pilot.@@N@@Statement
import JvmDerived.Pilot.@@N@@Code
set_option linter.unusedVariables false
set_option linter.unusedSimpArgs false
namespace Jvm.RoadKit
open Sem ClassFile Op Lib Jvm.Stand Jvm.Free Jvm.LawKit
section OwnGo
variable {p : Program} {l : Launch} {e : Env} {R : Room} {s : State} {m : MethodId} {args : Array Value} {below : List Frame} {meth : Method} {c : Code} {T : State} {locs : List Loc} {cells slots kc ks : Nat} {Z : State} {a0 : Array Value} {h : Heap} {Q : Option Value → Heap → List Loc → Prop} {F0 : State → Outcome → Prop}
/-- what is left of a run from T: it ends, and F0 holds of its end -/
def Go (p : Program) (e : Env) (below : List Frame) (F0 : State → Outcome → Prop) (T : State) : Prop :=
  ∃ (U : State) (o : Outcome), Steps p.tables e below T U ∧ U.status = .running ∧ Ended U below o ∧ F0 U o
def EndN (s : State) (Q : Option Value → Heap → List Loc → Prop) (kc ks : Nat) (U : State) (o : Outcome) : Prop := ∃ v L, o = .returned v ∧ Q v U.heap L ∧ FrameEnd s o U L kc ks
theorem Go.step {T' : State} (g : ∀ t, Steps p.tables e below T' t → Steps p.tables e below T t) (k : Go p e below F0 T') : Go p e below F0 T := by
  obtain ⟨U, o, h1, r⟩ := k
  exact ⟨U, o, g _ h1, r⟩
theorem Go.cast {g g' : JFrame} (q : g = g') (k : Go p e below F0 (T.setTop g')) : Go p e below F0 (T.setTop g) := by rw [q]; exact k
/-- a body's contract: from these arguments and this heap it returns, and Q holds -/
def Ctr (l : Launch) (Z : State) (y : MethodName) (bytes : ByteArray) (maxL : Nat) (ret : Option FieldType) (rm : Room) (as : Array Value) (h : Heap) (Q : Option Value → Heap → List Loc → Prop) : Prop :=
  ∀ ws : List Jvm.Cond, MetFree l y (head1 (Jvm.Cond.code y bytes maxL ret :: ws) rm) (fun a U => a = as ∧ Z.Warmed39 U.vm ∧ U.heap = h) (fun _ _ _ _ _ => True) (fun _ U o U' => ∃ v L, o = .returned v ∧ Q v U'.heap L ∧ FrameEnd U o U' L rm.cells rm.slots)
theorem Ctr.of {y : MethodName} {bytes : ByteArray} {maxL : Nat} {ret : Option FieldType} {rm : Room} {as : Array Value} (hp : plainFor y = true)
    (body : ∀ (p : Program) (e : Env) (s : State) (m : MethodId) (below : List Frame) (meth : Method) (c : Code) (T : State), p.tables.exec = Jvm.exec → Z.Warmed39 s.vm → c.code = bytes → c.maxLocals = maxL → s.vm.findClass y.cls = some m.cls → meth.name = y.name → meth.sig.returnType = ret → meth.locks = false → T.heap = h → s.heap = h → Stand p l e rm s m as below meth c T [] 0 0 →
      Go p e below (EndN s Q rm.cells rm.slots) (T.setTop (entryFrame m as maxL))) : Ctr l Z y bytes maxL ret rm as h Q := by
  intro ws
  refine MetFree.of_bodySF hp hisR ?_
  intro p e s m args below meth c s₁ Bd hml0 hP hK
  obtain ⟨rfl, hZ, hh⟩ := hP
  exact body p e s m below meth c s₁ Bd.exec hZ Bd.bytes hml0 (findClass_of_methodNamed Bd.named) (name_of_methodNamed Bd.named Bd.method).1 Bd.returns Bd.notSynchronized (by rw [← hh, Bd.state]; rfl) hh (Stand.of_body Bd)
theorem Go.retV (X : Stand p l e R s m args below meth c T locs cells slots) (hx : p.tables.exec = Jvm.exec) (hlk : meth.locks = false) {t : FieldType} (hret : meth.sig.returnType = some t) {pc : Nat} {Ls : Array Slot} {v : Value} {i : Instr} {rest : List Value} (hn : narrow t v = v)
    (hi : (i = .ireturn ∧ (t = .int ∨ t = .boolean ∨ t = .byte ∨ t = .char ∨ t = .short) ∧ ∃ z, v = .int z) ∨ (i = .lreturn ∧ t = .long ∧ ∃ z, v = .long z) ∨ (i = .dreturn ∧ t = .double ∧ ∃ z, v = .double z) ∨ (i = .freturn ∧ t = .float ∧ ∃ z, v = .float z) ∨ (i = .areturn ∧ t.isReference = true ∧ v.isRef = true))
    (hd : decode c.code pc = .ok (i, 1)) (hc : cells ≤ kc) (hs : slots ≤ ks) (q : Q (some v) T.heap locs) : Go p e below (EndN s Q kc ks) (T.setTop (mkF m pc Ls (v :: rest))) := by
  obtain ⟨fs, hr, hrun, hended, hW, hsame⟩ := X.leave (v := some v) (fun h => by rw [hret] at h; cases h) hlk
  exact ⟨_, _, retOut X hx hret hn hi hd hr, hrun, hended, _, _, rfl, q, ⟨_, rfl⟩, hW, hsame.mono hc hs⟩
theorem Go.retI (X : Stand p l e R s m args below meth c T locs cells slots) (hx : p.tables.exec = Jvm.exec) (hlk : meth.locks = false) (hret : meth.sig.returnType = some .int) {pc : Nat} {Ls : Array Slot} {z : Int32} {rest : List Value} (hd : decode c.code pc = .ok (.ireturn, 1)) (hc : cells ≤ kc) (hs : slots ≤ ks) (q : Q (some (.int z)) T.heap locs) : Go p e below (EndN s Q kc ks) (T.setTop (mkF m pc Ls (.int z :: rest))) :=
  Go.retV X hx hlk hret rfl (Or.inl ⟨rfl, Or.inl rfl, _, rfl⟩) hd hc hs q
theorem Go.retR (X : Stand p l e R s m args below meth c T locs cells slots) (hx : p.tables.exec = Jvm.exec) (hlk : meth.locks = false) {t : FieldType} (hret : meth.sig.returnType = some t) (ht : t.isReference = true) {pc : Nat} {Ls : Array Slot} {v : Value} (hv : v.isRef = true) {rest : List Value} (hd : decode c.code pc = .ok (.areturn, 1)) (hc : cells ≤ kc) (hs : slots ≤ ks) (q : Q (some v) T.heap locs) : Go p e below (EndN s Q kc ks) (T.setTop (mkF m pc Ls (v :: rest))) :=
  Go.retV X hx hlk hret (by rcases ref_cases hv with rfl | ⟨z, rfl⟩ <;> cases t <;> simp [FieldType.isReference] at ht <;> rfl) (Or.inr (Or.inr (Or.inr (Or.inr ⟨rfl, ht, hv⟩)))) hd hc hs q
theorem Go.retN (X : Stand p l e R s m args below meth c T locs cells slots) (hx : p.tables.exec = Jvm.exec) (hlk : meth.locks = false) {t : FieldType} (hret : meth.sig.returnType = some t) (ht : t = .boolean ∨ t = .byte ∨ t = .char ∨ t = .short) {pc : Nat} {Ls : Array Slot} {z : Int32} {rest : List Value} (hd : decode c.code pc = .ok (.ireturn, 1)) (hc : cells ≤ kc) (hs : slots ≤ ks) (q : Q (some (.int (nar t z))) T.heap locs) : Go p e below (EndN s Q kc ks) (T.setTop (mkF m pc Ls (.int z :: rest))) := by
  obtain ⟨fs, hr, hrun, hended, hW, hsame⟩ := X.leave (v := some (.int (nar t z))) (fun h => by rw [hret] at h; cases h) hlk
  exact ⟨_, _, Jvm.RoadKit.retN X hx hret ht hd hr, hrun, hended, _, _, rfl, q, ⟨_, rfl⟩, hW, hsame.mono hc hs⟩
theorem Go.iloadN (X : Stand p l e R s m args below meth c T locs cells slots) (hx : p.tables.exec = Jvm.exec) {pc pc' : Nat} {Ls : Array Slot} {st : List Value} {k : Fin 4} {v : Int32} (hp : pc' = pc + 1) (hd : decode c.code pc = .ok (.iload_n k, 1)) (hl : Ls[k.val]? = some (.val (.int v))) (k : Go p e below F0 (T.setTop (mkF m pc' Ls (.int v :: st)))) : Go p e below F0 (T.setTop (mkF m pc Ls st)) := by
  subst hp
  exact Go.step (fun t kt => XS.iloadN X.here hx (g := mkF m pc Ls _) rfl hd hl kt) k
theorem Go.aloadN (X : Stand p l e R s m args below meth c T locs cells slots) (hx : p.tables.exec = Jvm.exec) {pc pc' : Nat} {Ls : Array Slot} {st : List Value} {k : Fin 4} {v : Value} (hp : pc' = pc + 1) (hd : decode c.code pc = .ok (.aload_n k, 1)) (hl : Ls[k.val]? = some (.val v)) (hv : v.isRef = true) (k : Go p e below F0 (T.setTop (mkF m pc' Ls (v :: st)))) : Go p e below F0 (T.setTop (mkF m pc Ls st)) := by
  subst hp
  exact Go.step (fun t kt => XS.aloadN X.here hx (g := mkF m pc Ls _) rfl hd hl hv kt) k
theorem Go.iconst (X : Stand p l e R s m args below meth c T locs cells slots) (hx : p.tables.exec = Jvm.exec) {pc pc' : Nat} {Ls : Array Slot} {st : List Value} {i : Int} {v : Int32} (hp : pc' = pc + 1) (hd : decode c.code pc = .ok (.iconst i, 1)) (hv : Int32.ofInt i = v) (k : Go p e below F0 (T.setTop (mkF m pc' Ls (.int v :: st)))) : Go p e below F0 (T.setTop (mkF m pc Ls st)) := by
  subst hp
  exact Go.step (fun t kt => XS.iconst X.here hx (g := mkF m pc Ls _) rfl hd (by rw [hv]; exact kt)) k
theorem Go.bipush (X : Stand p l e R s m args below meth c T locs cells slots) (hx : p.tables.exec = Jvm.exec) {pc pc' : Nat} {Ls : Array Slot} {st : List Value} {i : Int} {v : Int32} (hp : pc' = pc + 2) (hd : decode c.code pc = .ok (.bipush i, 2)) (hv : (Int8.ofInt i).toInt32 = v) (k : Go p e below F0 (T.setTop (mkF m pc' Ls (.int v :: st)))) : Go p e below F0 (T.setTop (mkF m pc Ls st)) := by
  subst hp
  exact Go.step (fun t kt => XS.bipush X.here hx (g := mkF m pc Ls _) rfl hd (by rw [hv]; exact kt)) k
theorem Go.iadd (X : Stand p l e R s m args below meth c T locs cells slots) (hx : p.tables.exec = Jvm.exec) {pc pc' : Nat} {Ls : Array Slot} {x y : Int32} {rest : List Value} (hp : pc' = pc + 1) (hd : decode c.code pc = .ok (.iadd, 1))  (k : Go p e below F0 (T.setTop (mkF m pc' Ls (.int (x + y) :: rest)))) : Go p e below F0 (T.setTop (mkF m pc Ls (.int y :: .int x :: rest))) := by
  subst hp
  exact Go.step (fun t kt => XS.iadd X.here hx (g := mkF m pc Ls _) rfl hd rfl kt) k
theorem Go.iand (X : Stand p l e R s m args below meth c T locs cells slots) (hx : p.tables.exec = Jvm.exec) {pc pc' : Nat} {Ls : Array Slot} {x y : Int32} {rest : List Value} (hp : pc' = pc + 1) (hd : decode c.code pc = .ok (.iand, 1))  (k : Go p e below F0 (T.setTop (mkF m pc' Ls (.int (x &&& y) :: rest)))) : Go p e below F0 (T.setTop (mkF m pc Ls (.int y :: .int x :: rest))) := by
  subst hp
  exact Go.step (fun t kt => XS.iand X.here hx (g := mkF m pc Ls _) rfl hd rfl kt) k
theorem Go.ladd (X : Stand p l e R s m args below meth c T locs cells slots) (hx : p.tables.exec = Jvm.exec) {pc pc' : Nat} {Ls : Array Slot} {x y : Int64} {rest : List Value} (hp : pc' = pc + 1) (hd : decode c.code pc = .ok (.ladd, 1))  (k : Go p e below F0 (T.setTop (mkF m pc' Ls (.long (x + y) :: rest)))) : Go p e below F0 (T.setTop (mkF m pc Ls (.long y :: .long x :: rest))) := by
  subst hp
  exact Go.step (fun t kt => XT.ladd X.here hx (g := mkF m pc Ls _) rfl hd rfl kt) k
theorem Go.irem (X : Stand p l e R s m args below meth c T locs cells slots) (hx : p.tables.exec = Jvm.exec) {pc pc' : Nat} {Ls : Array Slot} {x y : Int32} {rest : List Value} (hp : pc' = pc + 1) (hd : decode c.code pc = .ok (.irem, 1)) (hy : y ≠ 0) (k : Go p e below F0 (T.setTop (mkF m pc' Ls (.int (x % y) :: rest)))) : Go p e below F0 (T.setTop (mkF m pc Ls (.int y :: .int x :: rest))) := by
  subst hp
  exact Go.step (fun t kt => iremM X hx (g := mkF m pc Ls _) rfl hd rfl hy kt) k
theorem Go.i2l (X : Stand p l e R s m args below meth c T locs cells slots) (hx : p.tables.exec = Jvm.exec) {pc pc' : Nat} {Ls : Array Slot} {x : Int32} {rest : List Value} (hp : pc' = pc + 1) (hd : decode c.code pc = .ok (.i2l, 1))  (k : Go p e below F0 (T.setTop (mkF m pc' Ls (.long (x.toInt64) :: rest)))) : Go p e below F0 (T.setTop (mkF m pc Ls (.int x :: rest))) := by
  subst hp
  exact Go.step (fun t kt => XT.i2l X.here hx (g := mkF m pc Ls _) rfl hd rfl kt) k
theorem Go.istoreN (X : Stand p l e R s m args below meth c T locs cells slots) (hx : p.tables.exec = Jvm.exec) {pc pc' : Nat} {Ls : Array Slot} {k : Fin 4} {x : Int32} {rest : List Value} {Ls' : Array Slot} (hp : pc' = pc + 1) (hd : decode c.code pc = .ok (.istore_n k, 1)) (hl : storeLocals Ls k.val (.int x) = some Ls') (k : Go p e below F0 (T.setTop (mkF m pc' Ls' rest))) : Go p e below F0 (T.setTop (mkF m pc Ls (.int x :: rest))) := by
  subst hp
  exact Go.step (fun t kt => XS.istoreN X.here hx (g := mkF m pc Ls _) rfl hd rfl hl kt) k
theorem Go.astoreN (X : Stand p l e R s m args below meth c T locs cells slots) (hx : p.tables.exec = Jvm.exec) {pc pc' : Nat} {Ls : Array Slot} {k : Fin 4} {x : Value} {rest : List Value} {Ls' : Array Slot} (hp : pc' = pc + 1) (hd : decode c.code pc = .ok (.astore_n k, 1)) (hv : x.isRef = true) (hl : storeLocals Ls k.val x = some Ls') (k : Go p e below F0 (T.setTop (mkF m pc' Ls' rest))) : Go p e below F0 (T.setTop (mkF m pc Ls (x :: rest))) := by
  subst hp
  exact Go.step (fun t kt => XS.astoreN X.here hx (g := mkF m pc Ls _) rfl hd rfl hv hl kt) k
theorem Go.goto (X : Stand p l e R s m args below meth c T locs cells slots) (hx : p.tables.exec = Jvm.exec) {pc pc' : Nat} {Ls : Array Slot} {o : Int} {st : List Value} (hd : decode c.code pc = .ok (.goto o, 3))  (ho : 0 ≤ (pc : Int) + o) (hp : ((pc : Int) + o).toNat = pc') (k : Go p e below F0 (T.setTop (mkF m pc' Ls st))) : Go p e below F0 (T.setTop (mkF m pc Ls st)) :=
  Go.step (fun t kt => XS.goto X.here hx (g := mkF m pc Ls _) rfl rfl hd ho hp kt) k
theorem Go.ifYes (X : Stand p l e R s m args below meth c T locs cells slots) (hx : p.tables.exec = Jvm.exec) {pc pc' : Nat} {Ls : Array Slot} {o : Int} {cd : ClassFile.Cond} {x : Int32} {rest : List Value} (hd : decode c.code pc = .ok (.ifCond cd o, 3)) (hc : if_icmp.holds cd x 0 = true) (ho : 0 ≤ (pc : Int) + o) (hp : ((pc : Int) + o).toNat = pc') (k : Go p e below F0 (T.setTop (mkF m pc' Ls rest))) : Go p e below F0 (T.setTop (mkF m pc Ls (.int x :: rest))) :=
  Go.step (fun t kt => XS.ifYes X.here hx (g := mkF m pc Ls _) rfl rfl hd rfl ((if0 _ _).trans hc) ho hp kt) k
theorem Go.icmpYes (X : Stand p l e R s m args below meth c T locs cells slots) (hx : p.tables.exec = Jvm.exec) {pc pc' : Nat} {Ls : Array Slot} {o : Int} {cd : ClassFile.Cond} {x y : Int32} {rest : List Value} (hd : decode c.code pc = .ok (.if_icmp cd o, 3)) (hc : if_icmp.holds cd x y = true) (ho : 0 ≤ (pc : Int) + o) (hp : ((pc : Int) + o).toNat = pc') (k : Go p e below F0 (T.setTop (mkF m pc' Ls rest))) : Go p e below F0 (T.setTop (mkF m pc Ls (.int y :: .int x :: rest))) :=
  Go.step (fun t kt => XS.icmpYes X.here hx (g := mkF m pc Ls _) rfl rfl hd rfl hc ho hp kt) k
theorem Go.ifNo (X : Stand p l e R s m args below meth c T locs cells slots) (hx : p.tables.exec = Jvm.exec) {pc pc' : Nat} {Ls : Array Slot} {o : Int} {cd : ClassFile.Cond} {x : Int32} {rest : List Value} (hp : pc' = pc + 3) (hd : decode c.code pc = .ok (.ifCond cd o, 3)) (hc : if_icmp.holds cd x 0 = false) (k : Go p e below F0 (T.setTop (mkF m pc' Ls rest))) : Go p e below F0 (T.setTop (mkF m pc Ls (.int x :: rest))) := by
  subst hp
  exact Go.step (fun t kt => XS.ifNo X.here hx (g := mkF m pc Ls _) rfl hd rfl ((if0 _ _).trans hc) kt) k
theorem Go.icmpNo (X : Stand p l e R s m args below meth c T locs cells slots) (hx : p.tables.exec = Jvm.exec) {pc pc' : Nat} {Ls : Array Slot} {o : Int} {cd : ClassFile.Cond} {x y : Int32} {rest : List Value} (hp : pc' = pc + 3) (hd : decode c.code pc = .ok (.if_icmp cd o, 3)) (hc : if_icmp.holds cd x y = false) (k : Go p e below F0 (T.setTop (mkF m pc' Ls rest))) : Go p e below F0 (T.setTop (mkF m pc Ls (.int y :: .int x :: rest))) := by
  subst hp
  exact Go.step (fun t kt => XS.icmpNo X.here hx (g := mkF m pc Ls _) rfl hd rfl hc kt) k
theorem Go.acmp (X : Stand p l e R s m args below meth c T locs cells slots) (hx : p.tables.exec = Jvm.exec) {pc pc' : Nat} {Ls : Array Slot} {cd : ACond} {x y : Value} {rest : List Value} {o : Int} {same : Bool} (hd : decode c.code pc = .ok (.if_acmp cd o, 3)) (h1 : x.isRef = true) (h2 : y.isRef = true) (hq : decide (x = y) = same) (ho : 0 ≤ (pc : Int) + o) (hp : pc' = if acV cd same = true then ((pc : Int) + o).toNat else pc + 3) (k : Go p e below F0 (T.setTop (mkF m pc' Ls rest))) : Go p e below F0 (T.setTop (mkF m pc Ls (y :: x :: rest))) :=
  Go.step (fun t kt => Jvm.RoadKit.acmp (g := mkF m pc Ls _) X hx rfl h1 h2 rfl hd rfl hq ho hp kt) k
theorem Go.tswIn (X : Stand p l e R s m args below meth c T locs cells slots) (hx : p.tables.exec = Jvm.exec) {pc pc' : Nat} {Ls : Array Slot} {dflt low high : Int} {offs : Array Int} {len : Nat} {o : Int} {i : Int32} {rest : List Value} (hd : decode c.code pc = .ok (.tableswitch dflt low high offs, len)) (hin : ¬ (i.toInt < low ∨ i.toInt > high)) (hoff : offs[(i.toInt - low).toNat]? = some o) (ho : 0 ≤ (pc : Int) + o) (hp : ((pc : Int) + o).toNat = pc') (k : Go p e below F0 (T.setTop (mkF m pc' Ls rest))) : Go p e below F0 (T.setTop (mkF m pc Ls (.int i :: rest))) :=
  Go.step (fun t kt => XS.tswIn X.here hx (g := mkF m pc Ls _) rfl rfl hd rfl hin hoff ho hp kt) k
theorem Go.getF (X : Stand p l e R s m args below meth c T locs cells slots) (hx : p.tables.exec = Jvm.exec) (hZ : Z.Warmed39 s.vm) {own : String} {index : Nat} (hown : s.vm.findClass own = some m.cls) {R0 O n d host : String} (wl : (Jvm.Cond.fieldLink own index R0 n d).before a0 Z = true ∨ (Jvm.Cond.fieldLinkNest own index R0 n d host).before a0 Z = true) (via : Via Z R0 O n d) (eT : T.heap = h) {a : Addr} {v : Value} (F : Fld Z h a O n d v) {pc pc' : Nat} {Ls : Array Slot} {rest : List Value} (hp : pc' = pc + 3) (hd : decode c.code pc = .ok (.getfield index, 3))
    (k : ∀ T', T'.heap = h → Stand p l e R s m args below meth c T' locs cells slots → Go p e below F0 (T'.setTop (mkF m pc' Ls (v :: rest)))) : Go p e below F0 (T.setTop (mkF m pc Ls (.ref a :: rest))) := by
  subst hp
  obtain ⟨T', X', e', st⟩ := Jvm.RoadKit.getF X hx hZ hown wl via eT F (g := mkF m pc Ls (.ref a :: rest)) rfl rfl hd
  exact Go.step st (k T' e' X')
theorem Go.getS (X : Stand p l e R s m args below meth c T locs cells slots) (hx : p.tables.exec = Jvm.exec) (hZ : Z.Warmed39 s.vm) {own : String} {index : Nat} (hown : s.vm.findClass own = some m.cls) {R0 O n d host : String} (wl : (Jvm.Cond.fieldLink own index R0 n d).before a0 Z = true ∨ (Jvm.Cond.fieldLinkNest own index R0 n d host).before a0 Z = true) (via : Via Z R0 O n d) (eT : T.heap = h) {v : Value} (F : Sta Z h O n d v) {pc pc' : Nat} {Ls : Array Slot} {rest : List Value} (hp : pc' = pc + 3) (hd : decode c.code pc = .ok (.getstatic index, 3))
    (k : ∀ T', T'.heap = h → Stand p l e R s m args below meth c T' locs cells slots → Go p e below F0 (T'.setTop (mkF m pc' Ls (v :: rest)))) : Go p e below F0 (T.setTop (mkF m pc Ls rest)) := by
  subst hp
  obtain ⟨T', X', e', st⟩ := Jvm.RoadKit.getS2 X hx hZ hown wl via eT F (g := mkF m pc Ls rest) rfl hd
  exact Go.step st (k T' e' X')
theorem Go.iaload (X : Stand p l e R s m args below meth c T locs cells slots) (hx : p.tables.exec = Jvm.exec) (hZ : Z.Warmed39 s.vm) (eT : T.heap = h) {a : Addr} {kk : ClassId} {z : Int32} {vs : List Value} {dv : Value} (V : Arv Z h a kk .int z vs dv) {j : Int32} {v : Value} (hj : ¬ j < 0 ∧ j < z) (hv : vs.getD j.toNatClampNeg dv = v) {pc pc' : Nat} {Ls : Array Slot} {rest : List Value} (hp : pc' = pc + 1) (hd : decode c.code pc = .ok (.iaload, 1)) (k : Go p e below F0 (T.setTop (mkF m pc' Ls (v :: rest)))) : Go p e below F0 (T.setTop (mkF m pc Ls (.int j :: .ref a :: rest))) := by
  subst hp
  obtain ⟨cl, A, q1, S, q3, H, G⟩ := V
  exact Go.step (fun t kt => X.iaload hx (j := j) (v := v) (by rw [eT]; exact A.1) (State.isArrayOf_alike hZ.alike A.2.1) A.2.2 (inb_of S hj) (H.at (inb_of S hj) hv) (g := mkF m pc Ls (.int j :: .ref a :: rest)) rfl rfl hd t kt) k
theorem Go.ldcI (X : Stand p l e R s m args below meth c T locs cells slots) (hx : p.tables.exec = Jvm.exec) (hZ : Z.Warmed39 s.vm) {own : String} {index : Nat} (hown : s.vm.findClass own = some m.cls) {v : Int32} (wl : (Jvm.Cond.constant own index v).before a0 Z = true) {pc pc' : Nat} {Ls : Array Slot} {rest : List Value} (hp : pc' = pc + 2) (hd : decode c.code pc = .ok (.ldc index, 2)) (k : Go p e below F0 (T.setTop (mkF m pc' Ls (.int v :: rest)))) : Go p e below F0 (T.setTop (mkF m pc Ls rest)) := by
  subst hp
  exact Go.step (fun t kt => X.ldcInt hx hown (mvT hZ wl) (g := mkF m pc Ls rest) rfl hd t kt) k
theorem Go.callSB (X : Stand p l e R s m args below meth c T locs cells slots) (hx : p.tables.exec = Jvm.exec) (hZ : Z.Warmed39 s.vm) {own : String} {index : Nat} (hown : s.vm.findClass own = some m.cls) {y : MethodName} {bytes : ByteArray} {maxL : Nat} {ret : Option FieldType} (w1 : (Jvm.Cond.methodLink own index y).before a0 Z = true) (w2 : (Jvm.Cond.static y).before a0 Z = true) (w3 : (Jvm.Cond.initialized y.cls).before a0 Z = true) (w4 : (Jvm.Cond.code y bytes maxL ret).before a0 Z = true) (hy : y.cls ≠ "java/lang/invoke/MethodHandle" ∧ y.cls ≠ "java/lang/invoke/VarHandle") {W : Nat} {Pre : Pt → Array Value → Prop} {Post : Pt → Array Value → Option Value → Pt → Prop} (hK : Back l R p e below s args y 3 W Pre Post) (eT : T.heap = h)  {pc pc' : Nat} {Ls : Array Slot} {stk argsL rest : List Value} (hp : pc' = pc + 3) (hsz : Ls.size = c.maxLocals) (hlen : ∀ sig, parseMethodDescriptor y.desc = some sig → argsL.length = sig.parameters.length) (hst : stk = argsL.reverse ++ rest) (hW : (rest.map fun v => v.category).sum ≤ W) (hd : decode c.code pc = .ok (.invokestatic index, 3)) (hpre : ∀ vm₁, s.WarmedH vm₁ → Pre ⟨T.setVm vm₁, locs, cells, slots⟩ argsL.toArray)
    (k : ∀ (v : Option Value) (vm₁ : Vm) (T' : State) (locs' : List Loc) (cells' slots' : Nat), Stand p l e R s m args below meth c T' locs' cells' slots' → Post ⟨T.setVm vm₁, locs, cells, slots⟩ argsL.toArray v ⟨T', locs', cells', slots'⟩ → Go p e below F0 (T'.setTop (mkF m pc' Ls (v.toList ++ rest)))) : Go p e below F0 (T.setTop (mkF m pc Ls stk)) := by
  subst hp
  obtain ⟨v, vm₁, ⟨T', L', c', n'⟩, -, X', hP, st⟩ := Jvm.LawKit.callS X hx hown (mvT hZ w1) (mvT hZ w2) (mvT hZ w3) (mvT hZ w4) hy hK (g := mkF m pc Ls stk) rfl hsz hlen hst (by show 2 * 0 + _ ≤ _; rw [Nat.mul_zero, Nat.zero_add]; exact hW) hd hpre
  exact Go.step st (k v vm₁ T' L' c' n' X' hP)
theorem Go.callS (X : Stand p l e R s m args below meth c T locs cells slots) (hx : p.tables.exec = Jvm.exec) (hZ : Z.Warmed39 s.vm) {own : String} {index : Nat} (hown : s.vm.findClass own = some m.cls) {y : MethodName} {bytes : ByteArray} {maxL : Nat} {ret : Option FieldType} (w1 : (Jvm.Cond.methodLink own index y).before a0 Z = true) (w2 : (Jvm.Cond.static y).before a0 Z = true) (w3 : (Jvm.Cond.initialized y.cls).before a0 Z = true) (w4 : (Jvm.Cond.code y bytes maxL ret).before a0 Z = true) (hy : y.cls ≠ "java/lang/invoke/MethodHandle" ∧ y.cls ≠ "java/lang/invoke/VarHandle") {rm : Room} {Qc : Option Value → Heap → List Loc → Prop}  (wc : (Jvm.Cond.code y bytes maxL ret).before a0 Z = true) (wz : (Jvm.Cond.initialized y.cls).before a0 Z = true) {as : Array Value} (hC : Ctr l Z y bytes maxL ret rm as h Qc) (eT : T.heap = h)  {pc pc' : Nat} {Ls : Array Slot} {stk argsL rest : List Value} (hp : pc' = pc + 3) (hsz : Ls.size = c.maxLocals) (hlen : ∀ sig, parseMethodDescriptor y.desc = some sig → argsL.length = sig.parameters.length) (hst : stk = argsL.reverse ++ rest) (has : argsL.toArray = as) {W : Nat} (hW : (rest.map fun v => v.category).sum ≤ W) (hf : rm.frames + 1 ≤ R.frames) (hl : W + (maxL + 11) + rm.locals ≤ R.locals) (hc : cells + rm.cells ≤ R.cells) (hs : slots + rm.slots ≤ R.slots) (hd : decode c.code pc = .ok (.invokestatic index, 3))
    (k : ∀ (v : Option Value) (T' : State) (L : List Loc), Qc v T'.heap L → Stand p l e R s m args below meth c T' (locs ++ L) (cells + rm.cells) (slots + rm.slots) → Go p e below F0 (T'.setTop (mkF m pc' Ls (v.toList ++ rest)))) : Go p e below F0 (T.setTop (mkF m pc Ls stk)) :=
  Go.callSB X hx hZ hown w1 w2 w3 w4 hy (backOf (W := W) (hC []) hZ wc wz hf hl) eT  hp hsz hlen hst hW hd (fun _ _ => ⟨has, eT, hc, hs⟩) (fun v vm₁ T' locs' cells' slots' X' ⟨L, hq, h1, h2, h3⟩ => by
    try dsimp only at h1 h2 h3
    subst h1 h2 h3
    exact k v T' L hq X')
theorem Go.callVB (X : Stand p l e R s m args below meth c T locs cells slots) (hx : p.tables.exec = Jvm.exec) (hZ : Z.Warmed39 s.vm) {own : String} {index : Nat} (hown : s.vm.findClass own = some m.cls) {x y : MethodName} {C : String} (w1 : (Jvm.Cond.methodLink own index x).before a0 Z = true) (w2 : (Jvm.Cond.declares x).before a0 Z = true) (nf : NotFace s x) (w3 : (Jvm.Cond.selects C x y).before a0 Z = true) (w4 : (Jvm.Cond.instanceMethod y).before a0 Z = true) (hy : x.cls ≠ "java/lang/invoke/MethodHandle" ∧ x.cls ≠ "java/lang/invoke/VarHandle") {W : Nat} {Pre : Pt → Array Value → Prop} {Post : Pt → Array Value → Option Value → Pt → Prop} (hK : Back l R p e below s args y 3 W Pre Post) (eT : T.heap = h) {a : Addr} (F : Exa Z h a C) {pc pc' : Nat} {Ls : Array Slot} {stk argsL rest : List Value} (hp : pc' = pc + 3) (hsz : Ls.size = c.maxLocals) (hlen : ∀ sig, parseMethodDescriptor x.desc = some sig → argsL.length = sig.parameters.length) (hst : stk = argsL.reverse ++ .ref a :: rest) (hW : (rest.map fun v => v.category).sum ≤ W) (hd : decode c.code pc = .ok (.invokevirtual index, 3)) (hpre : ∀ vm₁, s.WarmedH vm₁ → Pre ⟨T.setVm vm₁, locs, cells, slots⟩ (.ref a :: argsL).toArray)
    (k : ∀ (v : Option Value) (vm₁ : Vm) (T' : State) (locs' : List Loc) (cells' slots' : Nat), Stand p l e R s m args below meth c T' locs' cells' slots' → Post ⟨T.setVm vm₁, locs, cells, slots⟩ (.ref a :: argsL).toArray v ⟨T', locs', cells', slots'⟩ → Go p e below F0 (T'.setTop (mkF m pc' Ls (v.toList ++ rest)))) : Go p e below F0 (T.setTop (mkF m pc Ls stk)) := by
  subst hp
  obtain ⟨cB, kB, q1, q2, q3⟩ := isOf hZ eT F
  obtain ⟨v, vm₁, ⟨T', L', c', n'⟩, -, X', hP, st⟩ := X.virtualBack hx (y := x) (z := y) hown (mvT hZ w1) (mvT hZ w2) nf (mvT hZ w3) (mvT hZ w4) hy hK q1 q3 (g := mkF m pc Ls stk) rfl hsz (Steps.refl _) hlen hst (by show 2 * 0 + _ ≤ _; rw [Nat.mul_zero, Nat.zero_add]; exact hW) hd hpre
  exact Go.step (fun t kt => st.trans kt) (k v vm₁ T' L' c' n' X' hP)
theorem Go.callV (X : Stand p l e R s m args below meth c T locs cells slots) (hx : p.tables.exec = Jvm.exec) (hZ : Z.Warmed39 s.vm) {own : String} {index : Nat} (hown : s.vm.findClass own = some m.cls) {x y : MethodName} {C : String} (w1 : (Jvm.Cond.methodLink own index x).before a0 Z = true) (w2 : (Jvm.Cond.declares x).before a0 Z = true) (nf : NotFace s x) (w3 : (Jvm.Cond.selects C x y).before a0 Z = true) (w4 : (Jvm.Cond.instanceMethod y).before a0 Z = true) (hy : x.cls ≠ "java/lang/invoke/MethodHandle" ∧ x.cls ≠ "java/lang/invoke/VarHandle") {bytes : ByteArray} {maxL : Nat} {ret : Option FieldType} {rm : Room} {Qc : Option Value → Heap → List Loc → Prop}  (wc : (Jvm.Cond.code y bytes maxL ret).before a0 Z = true) (wz : (Jvm.Cond.initialized y.cls).before a0 Z = true) {as : Array Value} (hC : Ctr l Z y bytes maxL ret rm as h Qc) (eT : T.heap = h) {a : Addr} (F : Exa Z h a C) {pc pc' : Nat} {Ls : Array Slot} {stk argsL rest : List Value} (hp : pc' = pc + 3) (hsz : Ls.size = c.maxLocals) (hlen : ∀ sig, parseMethodDescriptor x.desc = some sig → argsL.length = sig.parameters.length) (hst : stk = argsL.reverse ++ .ref a :: rest) (has : (.ref a :: argsL).toArray = as) {W : Nat} (hW : (rest.map fun v => v.category).sum ≤ W) (hf : rm.frames + 1 ≤ R.frames) (hl : W + (maxL + 11) + rm.locals ≤ R.locals) (hc : cells + rm.cells ≤ R.cells) (hs : slots + rm.slots ≤ R.slots) (hd : decode c.code pc = .ok (.invokevirtual index, 3))
    (k : ∀ (v : Option Value) (T' : State) (L : List Loc), Qc v T'.heap L → Stand p l e R s m args below meth c T' (locs ++ L) (cells + rm.cells) (slots + rm.slots) → Go p e below F0 (T'.setTop (mkF m pc' Ls (v.toList ++ rest)))) : Go p e below F0 (T.setTop (mkF m pc Ls stk)) :=
  Go.callVB X hx hZ hown w1 w2 nf w3 w4 hy (backOf (W := W) (hC []) hZ wc wz hf hl) eT F hp hsz hlen hst hW hd (fun _ _ => ⟨has, eT, hc, hs⟩) (fun v vm₁ T' locs' cells' slots' X' ⟨L, hq, h1, h2, h3⟩ => by
    try dsimp only at h1 h2 h3
    subst h1 h2 h3
    exact k v T' L hq X')
theorem Go.callUB (X : Stand p l e R s m args below meth c T locs cells slots) (hx : p.tables.exec = Jvm.exec) (hZ : Z.Warmed39 s.vm) {own : String} {index : Nat} (hown : s.vm.findClass own = some m.cls) {owner C : String} {x y : MethodName} (w1 : (Jvm.Cond.methodLink own index x).before a0 Z = true) (w2 : (Jvm.Cond.sameMethod x.cls owner x.name x.desc).before a0 Z = true) (w3 : (Jvm.Cond.declares ⟨owner, x.name, x.desc⟩).before a0 Z = true) (w4 : (Jvm.Cond.selects C x y).before a0 Z = true) (w5 : (Jvm.Cond.instanceMethod y).before a0 Z = true) (hy : owner ≠ "java/lang/invoke/MethodHandle" ∧ owner ≠ "java/lang/invoke/VarHandle") {W : Nat} {Pre : Pt → Array Value → Prop} {Post : Pt → Array Value → Option Value → Pt → Prop} (hK : Back l R p e below s args y 3 W Pre Post) (eT : T.heap = h) {a : Addr} (F : Exa Z h a C) {pc pc' : Nat} {Ls : Array Slot} {stk argsL rest : List Value} (hp : pc' = pc + 3) (hsz : Ls.size = c.maxLocals) (hlen : ∀ sig, parseMethodDescriptor x.desc = some sig → argsL.length = sig.parameters.length) (hst : stk = argsL.reverse ++ .ref a :: rest) (hW : (rest.map fun v => v.category).sum ≤ W) (hd : decode c.code pc = .ok (.invokevirtual index, 3)) (hpre : ∀ vm₁, s.WarmedH vm₁ → Pre ⟨T.setVm vm₁, locs, cells, slots⟩ (.ref a :: argsL).toArray)
    (k : ∀ (v : Option Value) (vm₁ : Vm) (T' : State) (locs' : List Loc) (cells' slots' : Nat), Stand p l e R s m args below meth c T' locs' cells' slots' → Post ⟨T.setVm vm₁, locs, cells, slots⟩ (.ref a :: argsL).toArray v ⟨T', locs', cells', slots'⟩ → Go p e below F0 (T'.setTop (mkF m pc' Ls (v.toList ++ rest)))) : Go p e below F0 (T.setTop (mkF m pc Ls stk)) := by
  subst hp
  obtain ⟨cB, kB, q1, q2, q3⟩ := isOf hZ eT F
  obtain ⟨v, vm₁, ⟨T', L', c', n'⟩, -, X', hP, st⟩ := X.virtualBackUp hx (x := x) (y := y) hown (mvT hZ w1) (mvT hZ w2) (mvT hZ w3) hy (mvT hZ w4) (mvT hZ w5) hK q1 q3 (g := mkF m pc Ls stk) rfl hsz (Steps.refl _) hlen hst (by show 2 * 0 + _ ≤ _; rw [Nat.mul_zero, Nat.zero_add]; exact hW) hd hpre
  exact Go.step (fun t kt => st.trans kt) (k v vm₁ T' L' c' n' X' hP)
theorem Go.callU (X : Stand p l e R s m args below meth c T locs cells slots) (hx : p.tables.exec = Jvm.exec) (hZ : Z.Warmed39 s.vm) {own : String} {index : Nat} (hown : s.vm.findClass own = some m.cls) {owner C : String} {x y : MethodName} (w1 : (Jvm.Cond.methodLink own index x).before a0 Z = true) (w2 : (Jvm.Cond.sameMethod x.cls owner x.name x.desc).before a0 Z = true) (w3 : (Jvm.Cond.declares ⟨owner, x.name, x.desc⟩).before a0 Z = true) (w4 : (Jvm.Cond.selects C x y).before a0 Z = true) (w5 : (Jvm.Cond.instanceMethod y).before a0 Z = true) (hy : owner ≠ "java/lang/invoke/MethodHandle" ∧ owner ≠ "java/lang/invoke/VarHandle") {bytes : ByteArray} {maxL : Nat} {ret : Option FieldType} {rm : Room} {Qc : Option Value → Heap → List Loc → Prop}  (wc : (Jvm.Cond.code y bytes maxL ret).before a0 Z = true) (wz : (Jvm.Cond.initialized y.cls).before a0 Z = true) {as : Array Value} (hC : Ctr l Z y bytes maxL ret rm as h Qc) (eT : T.heap = h) {a : Addr} (F : Exa Z h a C) {pc pc' : Nat} {Ls : Array Slot} {stk argsL rest : List Value} (hp : pc' = pc + 3) (hsz : Ls.size = c.maxLocals) (hlen : ∀ sig, parseMethodDescriptor x.desc = some sig → argsL.length = sig.parameters.length) (hst : stk = argsL.reverse ++ .ref a :: rest) (has : (.ref a :: argsL).toArray = as) {W : Nat} (hW : (rest.map fun v => v.category).sum ≤ W) (hf : rm.frames + 1 ≤ R.frames) (hl : W + (maxL + 11) + rm.locals ≤ R.locals) (hc : cells + rm.cells ≤ R.cells) (hs : slots + rm.slots ≤ R.slots) (hd : decode c.code pc = .ok (.invokevirtual index, 3))
    (k : ∀ (v : Option Value) (T' : State) (L : List Loc), Qc v T'.heap L → Stand p l e R s m args below meth c T' (locs ++ L) (cells + rm.cells) (slots + rm.slots) → Go p e below F0 (T'.setTop (mkF m pc' Ls (v.toList ++ rest)))) : Go p e below F0 (T.setTop (mkF m pc Ls stk)) :=
  Go.callUB X hx hZ hown w1 w2 w3 w4 w5 hy (backOf (W := W) (hC []) hZ wc wz hf hl) eT F hp hsz hlen hst hW hd (fun _ _ => ⟨has, eT, hc, hs⟩) (fun v vm₁ T' locs' cells' slots' X' ⟨L, hq, h1, h2, h3⟩ => by
    try dsimp only at h1 h2 h3
    subst h1 h2 h3
    exact k v T' L hq X')
end OwnGo
end Jvm.RoadKit
namespace Jvm.Pilot.@@N@@
open Jvm Jvm.ClassFile Sem Op Lib Jvm.Free Jvm.Stand Jvm.LawKit Jvm.RoadKit Bundle Jvm.Pilot.@@N@@.Jvm.D
theorem tw_0 {Z : State} {a0 : Array Value} (hw : ∀ d ∈ tables_1, d.before a0 Z = true) : (Jvm.Cond.constant "com/example/dirbound/dirbound/cli/ExitCodeOfPinLaw" (7 : Nat) (2147483647 : Int32)).before a0 Z = true := hw _ (List.mem_of_getElem? (i := 0) rfl)
theorem tw_1 {Z : State} {a0 : Array Value} (hw : ∀ d ∈ tables_1, d.before a0 Z = true) : (Jvm.Cond.methodLink "com/example/dirbound/dirbound/cli/ExitCodeOfPinLaw" (8 : Nat) ({ cls := "com/example/dirbound/dirbound/cli/ExitCodeOfPinLaw", name := "failureOf", desc := "(I)Lcom/example/dirbound/dirbound/DirectoryException$Failure;" } : Jvm.MethodName)).before a0 Z = true := hw _ (List.mem_of_getElem? (i := 1) rfl)
theorem tw_2 {Z : State} {a0 : Array Value} (hw : ∀ d ∈ tables_1, d.before a0 Z = true) : (Jvm.Cond.static ({ cls := "com/example/dirbound/dirbound/cli/ExitCodeOfPinLaw", name := "failureOf", desc := "(I)Lcom/example/dirbound/dirbound/DirectoryException$Failure;" } : Jvm.MethodName)).before a0 Z = true := hw _ (List.mem_of_getElem? (i := 2) rfl)
theorem tw_3 {Z : State} {a0 : Array Value} (hw : ∀ d ∈ tables_1, d.before a0 Z = true) : (Jvm.Cond.initialized "com/example/dirbound/dirbound/cli/ExitCodeOfPinLaw").before a0 Z = true := hw _ (List.mem_of_getElem? (i := 3) rfl)
theorem tw_4 {Z : State} {a0 : Array Value} (hw : ∀ d ∈ tables_1, d.before a0 Z = true) : (Jvm.Cond.code ({ cls := "com/example/dirbound/dirbound/cli/ExitCodeOfPinLaw", name := "failureOf", desc := "(I)Lcom/example/dirbound/dirbound/DirectoryException$Failure;" } : Jvm.MethodName) method_3_code (1 : Nat) (Option.some (Jvm.ClassFile.FieldType.object "com/example/dirbound/dirbound/DirectoryException$Failure"))).before a0 Z = true := hw _ (List.mem_of_getElem? (i := 4) rfl)
theorem tw_5 {Z : State} {a0 : Array Value} (hw : ∀ d ∈ tables_1, d.before a0 Z = true) : (Jvm.Cond.fieldLink "com/example/dirbound/dirbound/cli/ExitCodeOfPinLaw" (32 : Nat) "com/example/dirbound/dirbound/DirectoryException$Failure" "INVALID_NAME" "Lcom/example/dirbound/dirbound/DirectoryException$Failure;").before a0 Z = true := hw _ (List.mem_of_getElem? (i := 5) rfl)
theorem tw_6 {Z : State} {a0 : Array Value} (hw : ∀ d ∈ tables_1, d.before a0 Z = true) : (Jvm.Cond.initialized "com/example/dirbound/dirbound/DirectoryException$Failure").before a0 Z = true := hw _ (List.mem_of_getElem? (i := 6) rfl)
theorem tw_7 {Z : State} {a0 : Array Value} (hw : ∀ d ∈ tables_1, d.before a0 Z = true) : (Jvm.Cond.laysStatic "com/example/dirbound/dirbound/DirectoryException$Failure" "INVALID_NAME" "Lcom/example/dirbound/dirbound/DirectoryException$Failure;").before a0 Z = true := hw _ (List.mem_of_getElem? (i := 7) rfl)
theorem tw_8 {Z : State} {a0 : Array Value} (hw : ∀ d ∈ tables_1, d.before a0 Z = true) : (Jvm.Cond.methodLink "com/example/dirbound/dirbound/cli/ExitCodeOfPinLaw" (14 : Nat) ({ cls := "com/example/dirbound/dirbound/cli/ExitCode", name := "of", desc := "(Lcom/example/dirbound/dirbound/DirectoryException$Failure;)Lcom/example/dirbound/dirbound/cli/ExitCode;" } : Jvm.MethodName)).before a0 Z = true := hw _ (List.mem_of_getElem? (i := 8) rfl)
theorem tw_9 {Z : State} {a0 : Array Value} (hw : ∀ d ∈ tables_1, d.before a0 Z = true) : (Jvm.Cond.static ({ cls := "com/example/dirbound/dirbound/cli/ExitCode", name := "of", desc := "(Lcom/example/dirbound/dirbound/DirectoryException$Failure;)Lcom/example/dirbound/dirbound/cli/ExitCode;" } : Jvm.MethodName)).before a0 Z = true := hw _ (List.mem_of_getElem? (i := 9) rfl)
theorem tw_10 {Z : State} {a0 : Array Value} (hw : ∀ d ∈ tables_1, d.before a0 Z = true) : (Jvm.Cond.initialized "com/example/dirbound/dirbound/cli/ExitCode").before a0 Z = true := hw _ (List.mem_of_getElem? (i := 10) rfl)
theorem tw_11 {Z : State} {a0 : Array Value} (hw : ∀ d ∈ tables_1, d.before a0 Z = true) : (Jvm.Cond.code ({ cls := "com/example/dirbound/dirbound/cli/ExitCode", name := "of", desc := "(Lcom/example/dirbound/dirbound/DirectoryException$Failure;)Lcom/example/dirbound/dirbound/cli/ExitCode;" } : Jvm.MethodName) prog_34_method_4_code (1 : Nat) (Option.some (Jvm.ClassFile.FieldType.object "com/example/dirbound/dirbound/cli/ExitCode"))).before a0 Z = true := hw _ (List.mem_of_getElem? (i := 11) rfl)
theorem tw_12 {Z : State} {a0 : Array Value} (hw : ∀ d ∈ tables_1, d.before a0 Z = true) : (Jvm.Cond.fieldLink "com/example/dirbound/dirbound/cli/ExitCode" (57 : Nat) "com/example/dirbound/dirbound/cli/ExitCode$1" "$SwitchMap$com$example$dirbound$dirbound$DirectoryException$Failure" "[I").before a0 Z = true := hw _ (List.mem_of_getElem? (i := 12) rfl)
theorem tw_13 {Z : State} {a0 : Array Value} (hw : ∀ d ∈ tables_1, d.before a0 Z = true) : (Jvm.Cond.initialized "com/example/dirbound/dirbound/cli/ExitCode$1").before a0 Z = true := hw _ (List.mem_of_getElem? (i := 13) rfl)
theorem tw_14 {Z : State} {a0 : Array Value} (hw : ∀ d ∈ tables_1, d.before a0 Z = true) : (Jvm.Cond.laysStatic "com/example/dirbound/dirbound/cli/ExitCode$1" "$SwitchMap$com$example$dirbound$dirbound$DirectoryException$Failure" "[I").before a0 Z = true := hw _ (List.mem_of_getElem? (i := 14) rfl)
theorem tw_15 {Z : State} {a0 : Array Value} (hw : ∀ d ∈ tables_1, d.before a0 Z = true) : (Jvm.Cond.methodLink "com/example/dirbound/dirbound/cli/ExitCode" (63 : Nat) ({ cls := "com/example/dirbound/dirbound/DirectoryException$Failure", name := "ordinal", desc := "()I" } : Jvm.MethodName)).before a0 Z = true := hw _ (List.mem_of_getElem? (i := 15) rfl)
theorem tw_16 {Z : State} {a0 : Array Value} (hw : ∀ d ∈ tables_1, d.before a0 Z = true) : (Jvm.Cond.sameMethod "com/example/dirbound/dirbound/DirectoryException$Failure" "java/lang/Enum" "ordinal" "()I").before a0 Z = true := hw _ (List.mem_of_getElem? (i := 16) rfl)
theorem tw_17 {Z : State} {a0 : Array Value} (hw : ∀ d ∈ tables_1, d.before a0 Z = true) : (Jvm.Cond.declares ({ cls := "java/lang/Enum", name := "ordinal", desc := "()I" } : Jvm.MethodName)).before a0 Z = true := hw _ (List.mem_of_getElem? (i := 17) rfl)
theorem tw_18 {Z : State} {a0 : Array Value} (hw : ∀ d ∈ tables_1, d.before a0 Z = true) : (Jvm.Cond.instanceMethod ({ cls := "java/lang/Enum", name := "ordinal", desc := "()I" } : Jvm.MethodName)).before a0 Z = true := hw _ (List.mem_of_getElem? (i := 18) rfl)
theorem tw_19 {Z : State} {a0 : Array Value} (hw : ∀ d ∈ tables_1, d.before a0 Z = true) : (Jvm.Cond.selects "com/example/dirbound/dirbound/DirectoryException$Failure" ({ cls := "com/example/dirbound/dirbound/DirectoryException$Failure", name := "ordinal", desc := "()I" } : Jvm.MethodName) ({ cls := "java/lang/Enum", name := "ordinal", desc := "()I" } : Jvm.MethodName)).before a0 Z = true := hw _ (List.mem_of_getElem? (i := 19) rfl)
theorem tw_20 {Z : State} {a0 : Array Value} (hw : ∀ d ∈ tables_1, d.before a0 Z = true) : (Jvm.Cond.initialized "java/lang/Enum").before a0 Z = true := hw _ (List.mem_of_getElem? (i := 20) rfl)
theorem tw_21 {Z : State} {a0 : Array Value} (hw : ∀ d ∈ tables_1, d.before a0 Z = true) : (Jvm.Cond.code ({ cls := "java/lang/Enum", name := "ordinal", desc := "()I" } : Jvm.MethodName) jdk_37_method_2_code (1 : Nat) (Option.some Jvm.ClassFile.FieldType.int)).before a0 Z = true := hw _ (List.mem_of_getElem? (i := 21) rfl)
theorem tw_22 {Z : State} {a0 : Array Value} (hw : ∀ d ∈ tables_1, d.before a0 Z = true) : (Jvm.Cond.fieldLink "java/lang/Enum" (7 : Nat) "java/lang/Enum" "ordinal" "I").before a0 Z = true := hw _ (List.mem_of_getElem? (i := 22) rfl)
theorem tw_24 {Z : State} {a0 : Array Value} (hw : ∀ d ∈ tables_1, d.before a0 Z = true) : (Jvm.Cond.fieldLink "com/example/dirbound/dirbound/cli/ExitCode" (10 : Nat) "com/example/dirbound/dirbound/cli/ExitCode" "USAGE" "Lcom/example/dirbound/dirbound/cli/ExitCode;").before a0 Z = true := hw _ (List.mem_of_getElem? (i := 24) rfl)
theorem tw_25 {Z : State} {a0 : Array Value} (hw : ∀ d ∈ tables_1, d.before a0 Z = true) : (Jvm.Cond.laysStatic "com/example/dirbound/dirbound/cli/ExitCode" "USAGE" "Lcom/example/dirbound/dirbound/cli/ExitCode;").before a0 Z = true := hw _ (List.mem_of_getElem? (i := 25) rfl)
theorem tw_26 {Z : State} {a0 : Array Value} (hw : ∀ d ∈ tables_1, d.before a0 Z = true) : (Jvm.Cond.methodLink "com/example/dirbound/dirbound/cli/ExitCodeOfPinLaw" (20 : Nat) ({ cls := "com/example/dirbound/dirbound/cli/ExitCodeOfPinLaw", name := "expectedOf", desc := "(I)Lcom/example/dirbound/dirbound/cli/ExitCode;" } : Jvm.MethodName)).before a0 Z = true := hw _ (List.mem_of_getElem? (i := 26) rfl)
theorem tw_27 {Z : State} {a0 : Array Value} (hw : ∀ d ∈ tables_1, d.before a0 Z = true) : (Jvm.Cond.static ({ cls := "com/example/dirbound/dirbound/cli/ExitCodeOfPinLaw", name := "expectedOf", desc := "(I)Lcom/example/dirbound/dirbound/cli/ExitCode;" } : Jvm.MethodName)).before a0 Z = true := hw _ (List.mem_of_getElem? (i := 27) rfl)
theorem tw_28 {Z : State} {a0 : Array Value} (hw : ∀ d ∈ tables_1, d.before a0 Z = true) : (Jvm.Cond.code ({ cls := "com/example/dirbound/dirbound/cli/ExitCodeOfPinLaw", name := "expectedOf", desc := "(I)Lcom/example/dirbound/dirbound/cli/ExitCode;" } : Jvm.MethodName) method_4_code (1 : Nat) (Option.some (Jvm.ClassFile.FieldType.object "com/example/dirbound/dirbound/cli/ExitCode"))).before a0 Z = true := hw _ (List.mem_of_getElem? (i := 28) rfl)
theorem tw_29 {Z : State} {a0 : Array Value} (hw : ∀ d ∈ tables_1, d.before a0 Z = true) : (Jvm.Cond.fieldLink "com/example/dirbound/dirbound/cli/ExitCodeOfPinLaw" (62 : Nat) "com/example/dirbound/dirbound/cli/ExitCode" "USAGE" "Lcom/example/dirbound/dirbound/cli/ExitCode;").before a0 Z = true := hw _ (List.mem_of_getElem? (i := 29) rfl)
theorem tw_30 {Z : State} {a0 : Array Value} (hw : ∀ d ∈ tables_1, d.before a0 Z = true) : (Jvm.Cond.methodLink "com/example/dirbound/dirbound/cli/ExitCodeOfPinLaw" (24 : Nat) ({ cls := "com/example/dirbound/dirbound/cli/ExitCode", name := "status", desc := "()I" } : Jvm.MethodName)).before a0 Z = true := hw _ (List.mem_of_getElem? (i := 30) rfl)
theorem tw_31 {Z : State} {a0 : Array Value} (hw : ∀ d ∈ tables_1, d.before a0 Z = true) : (Jvm.Cond.declares ({ cls := "com/example/dirbound/dirbound/cli/ExitCode", name := "status", desc := "()I" } : Jvm.MethodName)).before a0 Z = true := hw _ (List.mem_of_getElem? (i := 31) rfl)
theorem tw_32 {Z : State} {a0 : Array Value} (hw : ∀ d ∈ tables_1, d.before a0 Z = true) : (Jvm.Cond.instanceMethod ({ cls := "com/example/dirbound/dirbound/cli/ExitCode", name := "status", desc := "()I" } : Jvm.MethodName)).before a0 Z = true := hw _ (List.mem_of_getElem? (i := 32) rfl)
theorem tw_33 {Z : State} {a0 : Array Value} (hw : ∀ d ∈ tables_1, d.before a0 Z = true) : (Jvm.Cond.selects "com/example/dirbound/dirbound/cli/ExitCode" ({ cls := "com/example/dirbound/dirbound/cli/ExitCode", name := "status", desc := "()I" } : Jvm.MethodName) ({ cls := "com/example/dirbound/dirbound/cli/ExitCode", name := "status", desc := "()I" } : Jvm.MethodName)).before a0 Z = true := hw _ (List.mem_of_getElem? (i := 33) rfl)
theorem tw_34 {Z : State} {a0 : Array Value} (hw : ∀ d ∈ tables_1, d.before a0 Z = true) : (Jvm.Cond.code ({ cls := "com/example/dirbound/dirbound/cli/ExitCode", name := "status", desc := "()I" } : Jvm.MethodName) prog_34_method_5_code (1 : Nat) (Option.some Jvm.ClassFile.FieldType.int)).before a0 Z = true := hw _ (List.mem_of_getElem? (i := 34) rfl)
theorem tw_35 {Z : State} {a0 : Array Value} (hw : ∀ d ∈ tables_1, d.before a0 Z = true) : (Jvm.Cond.fieldLink "com/example/dirbound/dirbound/cli/ExitCode" (53 : Nat) "com/example/dirbound/dirbound/cli/ExitCode" "status" "I").before a0 Z = true := hw _ (List.mem_of_getElem? (i := 35) rfl)
theorem tw_37 {Z : State} {a0 : Array Value} (hw : ∀ d ∈ tables_1, d.before a0 Z = true) : (Jvm.Cond.methodLink "com/example/dirbound/dirbound/cli/ExitCodeOfPinLaw" (28 : Nat) ({ cls := "com/example/dirbound/dirbound/cli/ExitCodeOfPinLaw", name := "statusOf", desc := "(I)I" } : Jvm.MethodName)).before a0 Z = true := hw _ (List.mem_of_getElem? (i := 37) rfl)
theorem tw_38 {Z : State} {a0 : Array Value} (hw : ∀ d ∈ tables_1, d.before a0 Z = true) : (Jvm.Cond.static ({ cls := "com/example/dirbound/dirbound/cli/ExitCodeOfPinLaw", name := "statusOf", desc := "(I)I" } : Jvm.MethodName)).before a0 Z = true := hw _ (List.mem_of_getElem? (i := 38) rfl)
theorem tw_39 {Z : State} {a0 : Array Value} (hw : ∀ d ∈ tables_1, d.before a0 Z = true) : (Jvm.Cond.code ({ cls := "com/example/dirbound/dirbound/cli/ExitCodeOfPinLaw", name := "statusOf", desc := "(I)I" } : Jvm.MethodName) method_5_code (1 : Nat) (Option.some Jvm.ClassFile.FieldType.int)).before a0 Z = true := hw _ (List.mem_of_getElem? (i := 39) rfl)
theorem tw_40 {Z : State} {a0 : Array Value} (hw : ∀ d ∈ tables_1, d.before a0 Z = true) : (Jvm.Cond.fieldLink "com/example/dirbound/dirbound/cli/ExitCodeOfPinLaw" (44 : Nat) "com/example/dirbound/dirbound/DirectoryException$Failure" "ALREADY_BOUND" "Lcom/example/dirbound/dirbound/DirectoryException$Failure;").before a0 Z = true := hw _ (List.mem_of_getElem? (i := 40) rfl)
theorem tw_41 {Z : State} {a0 : Array Value} (hw : ∀ d ∈ tables_1, d.before a0 Z = true) : (Jvm.Cond.laysStatic "com/example/dirbound/dirbound/DirectoryException$Failure" "ALREADY_BOUND" "Lcom/example/dirbound/dirbound/DirectoryException$Failure;").before a0 Z = true := hw _ (List.mem_of_getElem? (i := 41) rfl)
theorem tw_42 {Z : State} {a0 : Array Value} (hw : ∀ d ∈ tables_1, d.before a0 Z = true) : (Jvm.Cond.fieldLink "com/example/dirbound/dirbound/cli/ExitCode" (19 : Nat) "com/example/dirbound/dirbound/cli/ExitCode" "ALREADY_BOUND" "Lcom/example/dirbound/dirbound/cli/ExitCode;").before a0 Z = true := hw _ (List.mem_of_getElem? (i := 42) rfl)
theorem tw_43 {Z : State} {a0 : Array Value} (hw : ∀ d ∈ tables_1, d.before a0 Z = true) : (Jvm.Cond.laysStatic "com/example/dirbound/dirbound/cli/ExitCode" "ALREADY_BOUND" "Lcom/example/dirbound/dirbound/cli/ExitCode;").before a0 Z = true := hw _ (List.mem_of_getElem? (i := 43) rfl)
theorem tw_44 {Z : State} {a0 : Array Value} (hw : ∀ d ∈ tables_1, d.before a0 Z = true) : (Jvm.Cond.fieldLink "com/example/dirbound/dirbound/cli/ExitCodeOfPinLaw" (70 : Nat) "com/example/dirbound/dirbound/cli/ExitCode" "ALREADY_BOUND" "Lcom/example/dirbound/dirbound/cli/ExitCode;").before a0 Z = true := hw _ (List.mem_of_getElem? (i := 44) rfl)
theorem tw_45 {Z : State} {a0 : Array Value} (hw : ∀ d ∈ tables_1, d.before a0 Z = true) : (Jvm.Cond.fieldLink "com/example/dirbound/dirbound/cli/ExitCodeOfPinLaw" (41 : Nat) "com/example/dirbound/dirbound/DirectoryException$Failure" "NOT_FOUND" "Lcom/example/dirbound/dirbound/DirectoryException$Failure;").before a0 Z = true := hw _ (List.mem_of_getElem? (i := 45) rfl)
theorem tw_46 {Z : State} {a0 : Array Value} (hw : ∀ d ∈ tables_1, d.before a0 Z = true) : (Jvm.Cond.laysStatic "com/example/dirbound/dirbound/DirectoryException$Failure" "NOT_FOUND" "Lcom/example/dirbound/dirbound/DirectoryException$Failure;").before a0 Z = true := hw _ (List.mem_of_getElem? (i := 46) rfl)
theorem tw_47 {Z : State} {a0 : Array Value} (hw : ∀ d ∈ tables_1, d.before a0 Z = true) : (Jvm.Cond.fieldLink "com/example/dirbound/dirbound/cli/ExitCode" (16 : Nat) "com/example/dirbound/dirbound/cli/ExitCode" "NOT_FOUND" "Lcom/example/dirbound/dirbound/cli/ExitCode;").before a0 Z = true := hw _ (List.mem_of_getElem? (i := 47) rfl)
theorem tw_48 {Z : State} {a0 : Array Value} (hw : ∀ d ∈ tables_1, d.before a0 Z = true) : (Jvm.Cond.laysStatic "com/example/dirbound/dirbound/cli/ExitCode" "NOT_FOUND" "Lcom/example/dirbound/dirbound/cli/ExitCode;").before a0 Z = true := hw _ (List.mem_of_getElem? (i := 48) rfl)
theorem tw_49 {Z : State} {a0 : Array Value} (hw : ∀ d ∈ tables_1, d.before a0 Z = true) : (Jvm.Cond.fieldLink "com/example/dirbound/dirbound/cli/ExitCodeOfPinLaw" (68 : Nat) "com/example/dirbound/dirbound/cli/ExitCode" "NOT_FOUND" "Lcom/example/dirbound/dirbound/cli/ExitCode;").before a0 Z = true := hw _ (List.mem_of_getElem? (i := 49) rfl)
theorem tw_50 {Z : State} {a0 : Array Value} (hw : ∀ d ∈ tables_1, d.before a0 Z = true) : (Jvm.Cond.fieldLink "com/example/dirbound/dirbound/cli/ExitCodeOfPinLaw" (38 : Nat) "com/example/dirbound/dirbound/DirectoryException$Failure" "POLICY" "Lcom/example/dirbound/dirbound/DirectoryException$Failure;").before a0 Z = true := hw _ (List.mem_of_getElem? (i := 50) rfl)
theorem tw_51 {Z : State} {a0 : Array Value} (hw : ∀ d ∈ tables_1, d.before a0 Z = true) : (Jvm.Cond.laysStatic "com/example/dirbound/dirbound/DirectoryException$Failure" "POLICY" "Lcom/example/dirbound/dirbound/DirectoryException$Failure;").before a0 Z = true := hw _ (List.mem_of_getElem? (i := 51) rfl)
theorem tw_52 {Z : State} {a0 : Array Value} (hw : ∀ d ∈ tables_1, d.before a0 Z = true) : (Jvm.Cond.fieldLink "com/example/dirbound/dirbound/cli/ExitCode" (13 : Nat) "com/example/dirbound/dirbound/cli/ExitCode" "POLICY" "Lcom/example/dirbound/dirbound/cli/ExitCode;").before a0 Z = true := hw _ (List.mem_of_getElem? (i := 52) rfl)
theorem tw_53 {Z : State} {a0 : Array Value} (hw : ∀ d ∈ tables_1, d.before a0 Z = true) : (Jvm.Cond.laysStatic "com/example/dirbound/dirbound/cli/ExitCode" "POLICY" "Lcom/example/dirbound/dirbound/cli/ExitCode;").before a0 Z = true := hw _ (List.mem_of_getElem? (i := 53) rfl)
theorem tw_54 {Z : State} {a0 : Array Value} (hw : ∀ d ∈ tables_1, d.before a0 Z = true) : (Jvm.Cond.fieldLink "com/example/dirbound/dirbound/cli/ExitCodeOfPinLaw" (66 : Nat) "com/example/dirbound/dirbound/cli/ExitCode" "POLICY" "Lcom/example/dirbound/dirbound/cli/ExitCode;").before a0 Z = true := hw _ (List.mem_of_getElem? (i := 54) rfl)
theorem tw_55 {Z : State} {a0 : Array Value} (hw : ∀ d ∈ tables_1, d.before a0 Z = true) : (Jvm.Cond.fieldLink "com/example/dirbound/dirbound/cli/ExitCodeOfPinLaw" (56 : Nat) "com/example/dirbound/dirbound/DirectoryException$Failure" "FACTORY" "Lcom/example/dirbound/dirbound/DirectoryException$Failure;").before a0 Z = true := hw _ (List.mem_of_getElem? (i := 55) rfl)
theorem tw_56 {Z : State} {a0 : Array Value} (hw : ∀ d ∈ tables_1, d.before a0 Z = true) : (Jvm.Cond.laysStatic "com/example/dirbound/dirbound/DirectoryException$Failure" "FACTORY" "Lcom/example/dirbound/dirbound/DirectoryException$Failure;").before a0 Z = true := hw _ (List.mem_of_getElem? (i := 56) rfl)
theorem tw_57 {Z : State} {a0 : Array Value} (hw : ∀ d ∈ tables_1, d.before a0 Z = true) : (Jvm.Cond.fieldLink "com/example/dirbound/dirbound/cli/ExitCode" (7 : Nat) "com/example/dirbound/dirbound/cli/ExitCode" "FAILURE" "Lcom/example/dirbound/dirbound/cli/ExitCode;").before a0 Z = true := hw _ (List.mem_of_getElem? (i := 57) rfl)
theorem tw_58 {Z : State} {a0 : Array Value} (hw : ∀ d ∈ tables_1, d.before a0 Z = true) : (Jvm.Cond.laysStatic "com/example/dirbound/dirbound/cli/ExitCode" "FAILURE" "Lcom/example/dirbound/dirbound/cli/ExitCode;").before a0 Z = true := hw _ (List.mem_of_getElem? (i := 58) rfl)
theorem tw_59 {Z : State} {a0 : Array Value} (hw : ∀ d ∈ tables_1, d.before a0 Z = true) : (Jvm.Cond.fieldLink "com/example/dirbound/dirbound/cli/ExitCodeOfPinLaw" (78 : Nat) "com/example/dirbound/dirbound/cli/ExitCode" "FAILURE" "Lcom/example/dirbound/dirbound/cli/ExitCode;").before a0 Z = true := hw _ (List.mem_of_getElem? (i := 59) rfl)
theorem tw_60 {Z : State} {a0 : Array Value} (hw : ∀ d ∈ tables_1, d.before a0 Z = true) : (Jvm.Cond.fieldLink "com/example/dirbound/dirbound/cli/ExitCodeOfPinLaw" (47 : Nat) "com/example/dirbound/dirbound/DirectoryException$Failure" "UNREACHABLE" "Lcom/example/dirbound/dirbound/DirectoryException$Failure;").before a0 Z = true := hw _ (List.mem_of_getElem? (i := 60) rfl)
theorem tw_61 {Z : State} {a0 : Array Value} (hw : ∀ d ∈ tables_1, d.before a0 Z = true) : (Jvm.Cond.laysStatic "com/example/dirbound/dirbound/DirectoryException$Failure" "UNREACHABLE" "Lcom/example/dirbound/dirbound/DirectoryException$Failure;").before a0 Z = true := hw _ (List.mem_of_getElem? (i := 61) rfl)
theorem tw_62 {Z : State} {a0 : Array Value} (hw : ∀ d ∈ tables_1, d.before a0 Z = true) : (Jvm.Cond.fieldLink "com/example/dirbound/dirbound/cli/ExitCode" (22 : Nat) "com/example/dirbound/dirbound/cli/ExitCode" "UNREACHABLE" "Lcom/example/dirbound/dirbound/cli/ExitCode;").before a0 Z = true := hw _ (List.mem_of_getElem? (i := 62) rfl)
theorem tw_63 {Z : State} {a0 : Array Value} (hw : ∀ d ∈ tables_1, d.before a0 Z = true) : (Jvm.Cond.laysStatic "com/example/dirbound/dirbound/cli/ExitCode" "UNREACHABLE" "Lcom/example/dirbound/dirbound/cli/ExitCode;").before a0 Z = true := hw _ (List.mem_of_getElem? (i := 63) rfl)
theorem tw_64 {Z : State} {a0 : Array Value} (hw : ∀ d ∈ tables_1, d.before a0 Z = true) : (Jvm.Cond.fieldLink "com/example/dirbound/dirbound/cli/ExitCodeOfPinLaw" (72 : Nat) "com/example/dirbound/dirbound/cli/ExitCode" "UNREACHABLE" "Lcom/example/dirbound/dirbound/cli/ExitCode;").before a0 Z = true := hw _ (List.mem_of_getElem? (i := 64) rfl)
theorem tw_65 {Z : State} {a0 : Array Value} (hw : ∀ d ∈ tables_1, d.before a0 Z = true) : (Jvm.Cond.fieldLink "com/example/dirbound/dirbound/cli/ExitCodeOfPinLaw" (59 : Nat) "com/example/dirbound/dirbound/DirectoryException$Failure" "UNEXPECTED" "Lcom/example/dirbound/dirbound/DirectoryException$Failure;").before a0 Z = true := hw _ (List.mem_of_getElem? (i := 65) rfl)
theorem tw_66 {Z : State} {a0 : Array Value} (hw : ∀ d ∈ tables_1, d.before a0 Z = true) : (Jvm.Cond.laysStatic "com/example/dirbound/dirbound/DirectoryException$Failure" "UNEXPECTED" "Lcom/example/dirbound/dirbound/DirectoryException$Failure;").before a0 Z = true := hw _ (List.mem_of_getElem? (i := 66) rfl)
theorem tw_67 {Z : State} {a0 : Array Value} (hw : ∀ d ∈ tables_1, d.before a0 Z = true) : (Jvm.Cond.fieldLink "com/example/dirbound/dirbound/cli/ExitCodeOfPinLaw" (53 : Nat) "com/example/dirbound/dirbound/DirectoryException$Failure" "REFUSED" "Lcom/example/dirbound/dirbound/DirectoryException$Failure;").before a0 Z = true := hw _ (List.mem_of_getElem? (i := 67) rfl)
theorem tw_68 {Z : State} {a0 : Array Value} (hw : ∀ d ∈ tables_1, d.before a0 Z = true) : (Jvm.Cond.laysStatic "com/example/dirbound/dirbound/DirectoryException$Failure" "REFUSED" "Lcom/example/dirbound/dirbound/DirectoryException$Failure;").before a0 Z = true := hw _ (List.mem_of_getElem? (i := 68) rfl)
theorem tw_69 {Z : State} {a0 : Array Value} (hw : ∀ d ∈ tables_1, d.before a0 Z = true) : (Jvm.Cond.fieldLink "com/example/dirbound/dirbound/cli/ExitCode" (28 : Nat) "com/example/dirbound/dirbound/cli/ExitCode" "REFUSED" "Lcom/example/dirbound/dirbound/cli/ExitCode;").before a0 Z = true := hw _ (List.mem_of_getElem? (i := 69) rfl)
theorem tw_70 {Z : State} {a0 : Array Value} (hw : ∀ d ∈ tables_1, d.before a0 Z = true) : (Jvm.Cond.laysStatic "com/example/dirbound/dirbound/cli/ExitCode" "REFUSED" "Lcom/example/dirbound/dirbound/cli/ExitCode;").before a0 Z = true := hw _ (List.mem_of_getElem? (i := 70) rfl)
theorem tw_71 {Z : State} {a0 : Array Value} (hw : ∀ d ∈ tables_1, d.before a0 Z = true) : (Jvm.Cond.fieldLink "com/example/dirbound/dirbound/cli/ExitCodeOfPinLaw" (76 : Nat) "com/example/dirbound/dirbound/cli/ExitCode" "REFUSED" "Lcom/example/dirbound/dirbound/cli/ExitCode;").before a0 Z = true := hw _ (List.mem_of_getElem? (i := 71) rfl)
theorem tw_72 {Z : State} {a0 : Array Value} (hw : ∀ d ∈ tables_1, d.before a0 Z = true) : (Jvm.Cond.fieldLink "com/example/dirbound/dirbound/cli/ExitCodeOfPinLaw" (50 : Nat) "com/example/dirbound/dirbound/DirectoryException$Failure" "MALFORMED" "Lcom/example/dirbound/dirbound/DirectoryException$Failure;").before a0 Z = true := hw _ (List.mem_of_getElem? (i := 72) rfl)
theorem tw_73 {Z : State} {a0 : Array Value} (hw : ∀ d ∈ tables_1, d.before a0 Z = true) : (Jvm.Cond.laysStatic "com/example/dirbound/dirbound/DirectoryException$Failure" "MALFORMED" "Lcom/example/dirbound/dirbound/DirectoryException$Failure;").before a0 Z = true := hw _ (List.mem_of_getElem? (i := 73) rfl)
theorem tw_74 {Z : State} {a0 : Array Value} (hw : ∀ d ∈ tables_1, d.before a0 Z = true) : (Jvm.Cond.fieldLink "com/example/dirbound/dirbound/cli/ExitCode" (25 : Nat) "com/example/dirbound/dirbound/cli/ExitCode" "MALFORMED" "Lcom/example/dirbound/dirbound/cli/ExitCode;").before a0 Z = true := hw _ (List.mem_of_getElem? (i := 74) rfl)
theorem tw_75 {Z : State} {a0 : Array Value} (hw : ∀ d ∈ tables_1, d.before a0 Z = true) : (Jvm.Cond.laysStatic "com/example/dirbound/dirbound/cli/ExitCode" "MALFORMED" "Lcom/example/dirbound/dirbound/cli/ExitCode;").before a0 Z = true := hw _ (List.mem_of_getElem? (i := 75) rfl)
theorem tw_76 {Z : State} {a0 : Array Value} (hw : ∀ d ∈ tables_1, d.before a0 Z = true) : (Jvm.Cond.fieldLink "com/example/dirbound/dirbound/cli/ExitCodeOfPinLaw" (74 : Nat) "com/example/dirbound/dirbound/cli/ExitCode" "MALFORMED" "Lcom/example/dirbound/dirbound/cli/ExitCode;").before a0 Z = true := hw _ (List.mem_of_getElem? (i := 76) rfl)
section OwnStart
variable {args : Array Value} {first s : State} {o : Option Outcome} {idx : List Nat} {t : Term}
theorem own_eqI {k : Int32} (h : (Jvm.Cond.eq t (Term.int k)).value args first o s idx = some true) : t.eval args first o idx s = some (.int k) := by
  cases ht : t.eval args first o idx s with
  | none => simp [Cond.value, ht] at h
  | some x => cases x <;> simp [Cond.value, ht, Term.eval] at h; subst h; rfl
theorem own_len {a : Addr} {cl : Cell} {ty : FieldType} {n : Int32} (ev : t.eval args s none [] s = some (.ref a)) (A : Arr s s.heap a cl ty) (h : (Jvm.Cond.eq (.length t) (Term.int n)).value args s none s [] = some true) : cl.slots.size < 2 ^ 31 ∧ cl.slots.size.toInt32 = n := by
  have h1 := own_eqI h
  have h2 : s.arrayAt? a = some cl := Arr.fin (Vm.Alike.refl _) A
  simp only [Term.eval, ev, Bind.bind, Option.bind, h2, Pure.pure] at h1
  split at h1
  · exact ⟨by assumption, by simpa using h1⟩
  · simp at h1
theorem own_all {q : Jvm.Cond} {a : Addr} {cl : Cell} {ty : FieldType} (ev : t.eval args s none [] s = some (.ref a)) (A : Arr s s.heap a cl ty) (h : (Jvm.Cond.all t q).value args s none s [] = some true) : ∀ i, i < cl.slots.size → q.value args s none s [i] = some true := by
  intro j hj
  have hc : s.arrayAt? a = some cl := Arr.fin (Vm.Alike.refl _) A
  simp only [Cond.value, ev, hc] at h
  exact Jvm.Example.SumArray.foldl_all _ _ (fun _ => rfl) (fun x _ hx => by
    cases x with
    | none => rfl
    | some b => cases b <;> first | rfl | exact absurd rfl hx) cl.slots.size h j hj
end OwnStart

section OwnAuto
theorem own_rand {x m z : Int32} {k : Int} (h : (x &&& m) = z) (hm : 0 ≤ m.toInt ∧ m.toInt = k) : 0 ≤ z.toInt ∧ z.toInt ≤ k := by subst h; have := c_and x m hm.1; omega
theorem own_rrem {x y z : Int32} {d a b B : Int} (h : (x % y) = z) (hy : y.toInt = d) (hd : 0 < d) (hr : a ≤ x.toInt ∧ x.toInt ≤ b) (ha : 0 ≤ a) (hB : d = B + 1) : 0 ≤ z.toInt ∧ z.toInt ≤ B := by
  subst h
  have e := (c_irem x y d hy).1 (by omega)
  rw [e]
  have h1 := Int.emod_nonneg x.toInt (by omega : d ≠ 0)
  have h2 := Int.emod_lt_of_pos x.toInt hd
  omega
end OwnAuto

def Glob (Z : State) (f0 : Addr) (f1 : Addr) (f2 : Addr) (f3 : Addr) (f4 : Addr) (f5 : Addr) (f6 : Addr) (f7 : Addr) (f8 : Addr) (u0 : Addr) (u1 : Addr) (u2 : Addr) (u3 : Addr) (u4 : Addr) (u5 : Addr) (u6 : Addr) (u7 : Addr) (sw : Addr) (kk : ClassId) : Prop := Sta Z Z.heap "com/example/dirbound/dirbound/DirectoryException$Failure" "INVALID_NAME" "Lcom/example/dirbound/dirbound/DirectoryException$Failure;" (.ref f0) ∧ Exa Z Z.heap f0 "com/example/dirbound/dirbound/DirectoryException$Failure" ∧ Fld Z Z.heap f0 "java/lang/Enum" "ordinal" "I" (.int 0) ∧ Sta Z Z.heap "com/example/dirbound/dirbound/DirectoryException$Failure" "POLICY" "Lcom/example/dirbound/dirbound/DirectoryException$Failure;" (.ref f1) ∧ Exa Z Z.heap f1 "com/example/dirbound/dirbound/DirectoryException$Failure" ∧ Fld Z Z.heap f1 "java/lang/Enum" "ordinal" "I" (.int 1) ∧ Sta Z Z.heap "com/example/dirbound/dirbound/DirectoryException$Failure" "NOT_FOUND" "Lcom/example/dirbound/dirbound/DirectoryException$Failure;" (.ref f2) ∧ Exa Z Z.heap f2 "com/example/dirbound/dirbound/DirectoryException$Failure" ∧ Fld Z Z.heap f2 "java/lang/Enum" "ordinal" "I" (.int 2) ∧ Sta Z Z.heap "com/example/dirbound/dirbound/DirectoryException$Failure" "ALREADY_BOUND" "Lcom/example/dirbound/dirbound/DirectoryException$Failure;" (.ref f3) ∧ Exa Z Z.heap f3 "com/example/dirbound/dirbound/DirectoryException$Failure" ∧ Fld Z Z.heap f3 "java/lang/Enum" "ordinal" "I" (.int 3) ∧ Sta Z Z.heap "com/example/dirbound/dirbound/DirectoryException$Failure" "UNREACHABLE" "Lcom/example/dirbound/dirbound/DirectoryException$Failure;" (.ref f4) ∧ Exa Z Z.heap f4 "com/example/dirbound/dirbound/DirectoryException$Failure" ∧ Fld Z Z.heap f4 "java/lang/Enum" "ordinal" "I" (.int 4) ∧ Sta Z Z.heap "com/example/dirbound/dirbound/DirectoryException$Failure" "MALFORMED" "Lcom/example/dirbound/dirbound/DirectoryException$Failure;" (.ref f5) ∧ Exa Z Z.heap f5 "com/example/dirbound/dirbound/DirectoryException$Failure" ∧ Fld Z Z.heap f5 "java/lang/Enum" "ordinal" "I" (.int 5) ∧ Sta Z Z.heap "com/example/dirbound/dirbound/DirectoryException$Failure" "REFUSED" "Lcom/example/dirbound/dirbound/DirectoryException$Failure;" (.ref f6) ∧ Exa Z Z.heap f6 "com/example/dirbound/dirbound/DirectoryException$Failure" ∧ Fld Z Z.heap f6 "java/lang/Enum" "ordinal" "I" (.int 6) ∧ Sta Z Z.heap "com/example/dirbound/dirbound/DirectoryException$Failure" "FACTORY" "Lcom/example/dirbound/dirbound/DirectoryException$Failure;" (.ref f7) ∧ Exa Z Z.heap f7 "com/example/dirbound/dirbound/DirectoryException$Failure" ∧ Fld Z Z.heap f7 "java/lang/Enum" "ordinal" "I" (.int 7) ∧ Sta Z Z.heap "com/example/dirbound/dirbound/DirectoryException$Failure" "UNEXPECTED" "Lcom/example/dirbound/dirbound/DirectoryException$Failure;" (.ref f8) ∧ Exa Z Z.heap f8 "com/example/dirbound/dirbound/DirectoryException$Failure" ∧ Fld Z Z.heap f8 "java/lang/Enum" "ordinal" "I" (.int 8) ∧ Sta Z Z.heap "com/example/dirbound/dirbound/cli/ExitCode" "USAGE" "Lcom/example/dirbound/dirbound/cli/ExitCode;" (.ref u0) ∧ Exa Z Z.heap u0 "com/example/dirbound/dirbound/cli/ExitCode" ∧ Fld Z Z.heap u0 "com/example/dirbound/dirbound/cli/ExitCode" "status" "I" (.int 2) ∧ Sta Z Z.heap "com/example/dirbound/dirbound/cli/ExitCode" "POLICY" "Lcom/example/dirbound/dirbound/cli/ExitCode;" (.ref u1) ∧ Exa Z Z.heap u1 "com/example/dirbound/dirbound/cli/ExitCode" ∧ Fld Z Z.heap u1 "com/example/dirbound/dirbound/cli/ExitCode" "status" "I" (.int 3) ∧ Sta Z Z.heap "com/example/dirbound/dirbound/cli/ExitCode" "NOT_FOUND" "Lcom/example/dirbound/dirbound/cli/ExitCode;" (.ref u2) ∧ Exa Z Z.heap u2 "com/example/dirbound/dirbound/cli/ExitCode" ∧ Fld Z Z.heap u2 "com/example/dirbound/dirbound/cli/ExitCode" "status" "I" (.int 4) ∧ Sta Z Z.heap "com/example/dirbound/dirbound/cli/ExitCode" "ALREADY_BOUND" "Lcom/example/dirbound/dirbound/cli/ExitCode;" (.ref u3) ∧ Exa Z Z.heap u3 "com/example/dirbound/dirbound/cli/ExitCode" ∧ Fld Z Z.heap u3 "com/example/dirbound/dirbound/cli/ExitCode" "status" "I" (.int 5) ∧ Sta Z Z.heap "com/example/dirbound/dirbound/cli/ExitCode" "UNREACHABLE" "Lcom/example/dirbound/dirbound/cli/ExitCode;" (.ref u4) ∧ Exa Z Z.heap u4 "com/example/dirbound/dirbound/cli/ExitCode" ∧ Fld Z Z.heap u4 "com/example/dirbound/dirbound/cli/ExitCode" "status" "I" (.int 6) ∧ Sta Z Z.heap "com/example/dirbound/dirbound/cli/ExitCode" "MALFORMED" "Lcom/example/dirbound/dirbound/cli/ExitCode;" (.ref u5) ∧ Exa Z Z.heap u5 "com/example/dirbound/dirbound/cli/ExitCode" ∧ Fld Z Z.heap u5 "com/example/dirbound/dirbound/cli/ExitCode" "status" "I" (.int 7) ∧ Sta Z Z.heap "com/example/dirbound/dirbound/cli/ExitCode" "REFUSED" "Lcom/example/dirbound/dirbound/cli/ExitCode;" (.ref u6) ∧ Exa Z Z.heap u6 "com/example/dirbound/dirbound/cli/ExitCode" ∧ Fld Z Z.heap u6 "com/example/dirbound/dirbound/cli/ExitCode" "status" "I" (.int 8) ∧ Sta Z Z.heap "com/example/dirbound/dirbound/cli/ExitCode" "FAILURE" "Lcom/example/dirbound/dirbound/cli/ExitCode;" (.ref u7) ∧ Exa Z Z.heap u7 "com/example/dirbound/dirbound/cli/ExitCode" ∧ Fld Z Z.heap u7 "com/example/dirbound/dirbound/cli/ExitCode" "status" "I" (.int 1) ∧ Sta Z Z.heap "com/example/dirbound/dirbound/cli/ExitCode$1" "$SwitchMap$com$example$dirbound$dirbound$DirectoryException$Failure" "[I" (.ref sw) ∧ Arv Z Z.heap sw kk .int (9 : Int32) [(.int 1), (.int 2), (.int 3), (.int 4), (.int 5), (.int 6), (.int 7), (.int 8), (.int 9)] (.int (0 : Int32))
theorem own_cs_0_8 {z : Int32} (h : 0 ≤ z.toInt ∧ z.toInt ≤ 8) : z = (0 : Int32) ∨ z = (1 : Int32) ∨ z = (2 : Int32) ∨ z = (3 : Int32) ∨ z = (4 : Int32) ∨ z = (5 : Int32) ∨ z = (6 : Int32) ∨ z = (7 : Int32) ∨ z = (8 : Int32) := by
  have q : z.toInt = 0 ∨ z.toInt = 1 ∨ z.toInt = 2 ∨ z.toInt = 3 ∨ z.toInt = 4 ∨ z.toInt = 5 ∨ z.toInt = 6 ∨ z.toInt = 7 ∨ z.toInt = 8 := by omega
  rcases q with h | h | h | h | h | h | h | h | h <;> simp [← Int32.toInt_inj, h]
theorem d1_0 : decode method_3_code 0 = .ok (.iload_n 0, 1) := by decide +kernel
theorem d1_1 : decode method_3_code 1 = .ok (.ifCond .ne 7, 3) := by decide +kernel
theorem d1_4 : decode method_3_code 4 = .ok (.getstatic 32, 3) := by decide +kernel
theorem d1_7 : decode method_3_code 7 = .ok (.areturn, 1) := by decide +kernel
theorem ef_1_I (m : MethodId) (x0 : Int32) : entryFrame m #[(.int x0)] 1 = mkF m 0 #[.val (.int x0)] [] := by first | (simp [entryFrame, mkF, argsToLocals, Value.category]; done) | rfl
theorem pn_c0 : plainName "com/example/dirbound/dirbound/cli/ExitCodeOfPinLaw" = true := by first | (simp [plainName, overriddenIn]; done) | decide +kernel
-- com/example/dirbound/dirbound/cli/ExitCodeOfPinLaw.failureOf
set_option maxRecDepth 65536 in
set_option maxHeartbeats 4000000 in
theorem au_1 (l : Launch) (Z : State) (a0 : Array Value) (hw : ∀ d ∈ tables_1, d.before a0 Z = true) (f0 : Addr) (f1 : Addr) (f2 : Addr) (f3 : Addr) (f4 : Addr) (f5 : Addr) (f6 : Addr) (f7 : Addr) (f8 : Addr) (u0 : Addr) (u1 : Addr) (u2 : Addr) (u3 : Addr) (u4 : Addr) (u5 : Addr) (u6 : Addr) (u7 : Addr) (sw : Addr) (kk : ClassId) (h0 : Heap) (n0 : Nat) (Z0 : n0 ≤ h0.size) (O0 : Old Z n0 h0) (G : Glob Z f0 f1 f2 f3 f4 f5 f6 f7 f8 u0 u1 u2 u3 u4 u5 u6 u7 sw kk) :
    Ctr l Z (⟨"com/example/dirbound/dirbound/cli/ExitCodeOfPinLaw", "failureOf", "(I)Lcom/example/dirbound/dirbound/DirectoryException$Failure;"⟩ : MethodName) method_3_code 1 (some (.object "com/example/dirbound/dirbound/DirectoryException$Failure")) ({ frames := 0, cells := 0, slots := 0, locals := 0 } : Room) #[(.int 0)] h0 (fun v h L => v = some (.ref f0) ∧ Fr n0 L ∧ h = h0) := by
  refine Ctr.of (plainFor_of_name pn_c0) ?_
  intro p e s m below meth c T0 hx hZ hby hml hown hnm hret hlk e0 es X0
  refine Go.cast (ef_1_I m (0 : Int32)) ?_
  have G' := G
  obtain ⟨G0, -, -, -, -, -, -, -, -, -, -, -, -, -, -, -, -, -, -, -, -, -, -, -, -, -, -, -, -, -, -, -, -, -, -, -, -, -, -, -, -, -, -, -, -, -, -, -, -, -, -, -, -⟩ := G'
  refine Go.iloadN X0 hx (pc' := 1) rfl (hb hby d1_0) rfl ?_
  refine Go.ifNo X0 hx (pc' := 4) rfl (hb hby d1_1) (by decide) ?_
  have fk1 : Sta Z h0 "com/example/dirbound/dirbound/DirectoryException$Failure" "INVALID_NAME" "Lcom/example/dirbound/dirbound/DirectoryException$Failure;" (.ref f0) := G0.ext O0.2
  refine Go.getS X0 hx hZ hown (host := "") (Or.inl (tw_5 hw)) Via.refl e0 fk1 (pc' := 7) rfl (hb hby d1_4) ?_
  intro T2 e2 X2
  refine Go.retR X2 hx hlk (t := (.object "com/example/dirbound/dirbound/DirectoryException$Failure")) hret rfl rfl (hb hby d1_7) (by decide) (by decide) ?_
  rw [e2]
  exact ⟨rfl, (Fr.nil n0), rfl⟩
theorem pd_0 : parseMethodDescriptor "(I)Lcom/example/dirbound/dirbound/DirectoryException$Failure;" = some ⟨[.int], some (.object "com/example/dirbound/dirbound/DirectoryException$Failure")⟩ := by decide +kernel
theorem d2_0 : decode prog_34_method_4_code 0 = .ok (.getstatic 57, 3) := by decide +kernel
theorem d2_3 : decode prog_34_method_4_code 3 = .ok (.aload_n 0, 1) := by decide +kernel
theorem d3_0 : decode jdk_37_method_2_code 0 = .ok (.aload_n 0, 1) := by decide +kernel
theorem d3_1 : decode jdk_37_method_2_code 1 = .ok (.getfield 7, 3) := by decide +kernel
theorem d3_4 : decode jdk_37_method_2_code 4 = .ok (.ireturn, 1) := by decide +kernel
theorem ef_3_R (m : MethodId) (x0 : Addr) : entryFrame m #[(.ref x0)] 1 = mkF m 0 #[.val (.ref x0)] [] := by first | (simp [entryFrame, mkF, argsToLocals, Value.category]; done) | rfl
theorem pn_c1 : plainName "java/lang/Enum" = true := by first | (simp [plainName, overriddenIn]; done) | decide +kernel
-- java/lang/Enum.ordinal
set_option maxRecDepth 65536 in
set_option maxHeartbeats 4000000 in
theorem au_3 (l : Launch) (Z : State) (a0 : Array Value) (hw : ∀ d ∈ tables_1, d.before a0 Z = true) (f0 : Addr) (f1 : Addr) (f2 : Addr) (f3 : Addr) (f4 : Addr) (f5 : Addr) (f6 : Addr) (f7 : Addr) (f8 : Addr) (u0 : Addr) (u1 : Addr) (u2 : Addr) (u3 : Addr) (u4 : Addr) (u5 : Addr) (u6 : Addr) (u7 : Addr) (sw : Addr) (kk : ClassId) (h0 : Heap) (n0 : Nat) (Z0 : n0 ≤ h0.size) (O0 : Old Z n0 h0) (G : Glob Z f0 f1 f2 f3 f4 f5 f6 f7 f8 u0 u1 u2 u3 u4 u5 u6 u7 sw kk) :
    Ctr l Z (⟨"java/lang/Enum", "ordinal", "()I"⟩ : MethodName) jdk_37_method_2_code 1 (some .int) ({ frames := 0, cells := 0, slots := 0, locals := 0 } : Room) #[(.ref f0)] h0 (fun v h L => v = some (.int 0) ∧ Fr n0 L ∧ h = h0) := by
  refine Ctr.of (plainFor_of_name pn_c1) ?_
  intro p e s m below meth c T0 hx hZ hby hml hown hnm hret hlk e0 es X0
  refine Go.cast (ef_3_R m f0) ?_
  have G' := G
  obtain ⟨-, -, G2, -, -, -, -, -, -, -, -, -, -, -, -, -, -, -, -, -, -, -, -, -, -, -, -, -, -, -, -, -, -, -, -, -, -, -, -, -, -, -, -, -, -, -, -, -, -, -, -, -, -⟩ := G'
  refine Go.aloadN X0 hx (pc' := 1) rfl (hb hby d3_0) rfl rfl ?_
  have fk1 : Fld Z h0 f0 "java/lang/Enum" "ordinal" "I" (.int 0) := G2.ext O0.2
  refine Go.getF X0 hx hZ hown (host := "") (Or.inl (tw_22 hw)) Via.refl e0 fk1 (pc' := 4) rfl (hb hby d3_1) ?_
  intro T2 e2 X2
  refine Go.retI X2 hx hlk hret (hb hby d3_4) (by decide) (by decide) ?_
  rw [e2]
  exact ⟨rfl, (Fr.nil n0), rfl⟩
theorem pd_1 : parseMethodDescriptor "()I" = some ⟨[], some .int⟩ := by decide +kernel
theorem d2_4 : decode prog_34_method_4_code 4 = .ok (.invokevirtual 63, 3) := by decide +kernel
theorem d2_7 : decode prog_34_method_4_code 7 = .ok (.iaload, 1) := by decide +kernel
theorem d2_8 : decode prog_34_method_4_code 8 = .ok (.tableswitch 52 1 9 #[62, 68, 74, 80, 86, 92, 98, 104, 104], 52) := by decide +kernel
theorem d2_70 : decode prog_34_method_4_code 70 = .ok (.getstatic 10, 3) := by decide +kernel
theorem d2_73 : decode prog_34_method_4_code 73 = .ok (.goto 42, 3) := by decide +kernel
theorem d2_115 : decode prog_34_method_4_code 115 = .ok (.areturn, 1) := by decide +kernel
theorem ef_2_R (m : MethodId) (x0 : Addr) : entryFrame m #[(.ref x0)] 1 = mkF m 0 #[.val (.ref x0)] [] := by first | (simp [entryFrame, mkF, argsToLocals, Value.category]; done) | rfl
theorem pn_c2 : plainName "com/example/dirbound/dirbound/cli/ExitCode" = true := by first | (simp [plainName, overriddenIn]; done) | decide +kernel
-- com/example/dirbound/dirbound/cli/ExitCode.of
set_option maxRecDepth 65536 in
set_option maxHeartbeats 4000000 in
theorem au_2 (l : Launch) (Z : State) (a0 : Array Value) (hw : ∀ d ∈ tables_1, d.before a0 Z = true) (f0 : Addr) (f1 : Addr) (f2 : Addr) (f3 : Addr) (f4 : Addr) (f5 : Addr) (f6 : Addr) (f7 : Addr) (f8 : Addr) (u0 : Addr) (u1 : Addr) (u2 : Addr) (u3 : Addr) (u4 : Addr) (u5 : Addr) (u6 : Addr) (u7 : Addr) (sw : Addr) (kk : ClassId) (h0 : Heap) (n0 : Nat) (Z0 : n0 ≤ h0.size) (O0 : Old Z n0 h0) (G : Glob Z f0 f1 f2 f3 f4 f5 f6 f7 f8 u0 u1 u2 u3 u4 u5 u6 u7 sw kk) :
    Ctr l Z (⟨"com/example/dirbound/dirbound/cli/ExitCode", "of", "(Lcom/example/dirbound/dirbound/DirectoryException$Failure;)Lcom/example/dirbound/dirbound/cli/ExitCode;"⟩ : MethodName) prog_34_method_4_code 1 (some (.object "com/example/dirbound/dirbound/cli/ExitCode")) ({ frames := 1, cells := 0, slots := 0, locals := 13 } : Room) #[(.ref f0)] h0 (fun v h L => v = some (.ref u0) ∧ Fr n0 L ∧ h = h0) := by
  refine Ctr.of (plainFor_of_name pn_c2) ?_
  intro p e s m below meth c T0 hx hZ hby hml hown hnm hret hlk e0 es X0
  refine Go.cast (ef_2_R m f0) ?_
  have G' := G
  obtain ⟨-, G1, -, -, -, -, -, -, -, -, -, -, -, -, -, -, -, -, -, -, -, -, -, -, -, -, -, G27, -, -, -, -, -, -, -, -, -, -, -, -, -, -, -, -, -, -, -, -, -, -, -, G51, G52⟩ := G'
  have fk1 : Sta Z h0 "com/example/dirbound/dirbound/cli/ExitCode$1" "$SwitchMap$com$example$dirbound$dirbound$DirectoryException$Failure" "[I" (.ref sw) := G51.ext O0.2
  refine Go.getS X0 hx hZ hown (host := "") (Or.inl (tw_12 hw)) Via.refl e0 fk1 (pc' := 3) rfl (hb hby d2_0) ?_
  intro T2 e2 X2
  refine Go.aloadN X2 hx (pc' := 4) rfl (hb hby d2_3) rfl rfl ?_
  have fk3 : Exa Z h0 f0 "com/example/dirbound/dirbound/DirectoryException$Failure" := G1.ext O0.2
  refine Go.callU X2 hx hZ hown (tw_15 hw) (tw_16 hw) (tw_17 hw) (tw_19 hw) (tw_18 hw) (by decide) (tw_21 hw) (tw_20 hw) (au_3 l Z a0 hw f0 f1 f2 f3 f4 f5 f6 f7 f8 u0 u1 u2 u3 u4 u5 u6 u7 sw kk h0 n0 Z0 O0 G) e2 fk3 (argsL := []) (rest := [(.ref sw)]) (pc' := 7) rfl (by rw [hml]; rfl) (lenOf pd_1 rfl) rfl rfl (W := 1) (Nat.le_of_eq rfl) (by decide) (by decide) (by decide) (by decide) (hb hby d2_4) ?_
  intro v4 T4 L4 q4 X4
  obtain ⟨rfl, N4, e4⟩ := q4
  show Go _ _ _ _ (T4.setTop (mkF m 7 #[.val (.ref f0)] [(.int 0), (.ref sw)]))
  have fk5 : Arv Z h0 sw kk .int (9 : Int32) [(.int 1), (.int 2), (.int 3), (.int 4), (.int 5), (.int 6), (.int 7), (.int 8), (.int 9)] (.int (0 : Int32)) := G52.ext O0.2
  refine Go.iaload X4 hx hZ e4 fk5 (v := (.int 1)) ⟨by decide, by decide⟩ rfl (pc' := 8) rfl (hb hby d2_7) ?_
  refine Go.tswIn X4 hx (pc' := 70) (hb hby d2_8) (by decide) (o := 62) (by decide) (by decide) (by decide) ?_
  have fk6 : Sta Z h0 "com/example/dirbound/dirbound/cli/ExitCode" "USAGE" "Lcom/example/dirbound/dirbound/cli/ExitCode;" (.ref u0) := G27.ext O0.2
  refine Go.getS X4 hx hZ hown (host := "") (Or.inl (tw_24 hw)) Via.refl e4 fk6 (pc' := 73) rfl (hb hby d2_70) ?_
  intro T7 e7 X7
  refine Go.goto X7 hx (pc' := 115) (hb hby d2_73) (by decide) (by decide) ?_
  refine Go.retR X7 hx hlk (t := (.object "com/example/dirbound/dirbound/cli/ExitCode")) hret rfl rfl (hb hby d2_115) (by decide) (by decide) ?_
  rw [e7]
  exact ⟨rfl, (Fr.app (Fr.nil n0) N4), rfl⟩
theorem pd_2 : parseMethodDescriptor "(Lcom/example/dirbound/dirbound/DirectoryException$Failure;)Lcom/example/dirbound/dirbound/cli/ExitCode;" = some ⟨[(.object "com/example/dirbound/dirbound/DirectoryException$Failure")], some (.object "com/example/dirbound/dirbound/cli/ExitCode")⟩ := by decide +kernel
theorem d4_0 : decode method_4_code 0 = .ok (.iload_n 0, 1) := by decide +kernel
theorem d4_1 : decode method_4_code 1 = .ok (.ifCond .ne 7, 3) := by decide +kernel
theorem d4_4 : decode method_4_code 4 = .ok (.getstatic 62, 3) := by decide +kernel
theorem d4_7 : decode method_4_code 7 = .ok (.areturn, 1) := by decide +kernel
theorem ef_4_I (m : MethodId) (x0 : Int32) : entryFrame m #[(.int x0)] 1 = mkF m 0 #[.val (.int x0)] [] := by first | (simp [entryFrame, mkF, argsToLocals, Value.category]; done) | rfl
-- com/example/dirbound/dirbound/cli/ExitCodeOfPinLaw.expectedOf
set_option maxRecDepth 65536 in
set_option maxHeartbeats 4000000 in
theorem au_4 (l : Launch) (Z : State) (a0 : Array Value) (hw : ∀ d ∈ tables_1, d.before a0 Z = true) (f0 : Addr) (f1 : Addr) (f2 : Addr) (f3 : Addr) (f4 : Addr) (f5 : Addr) (f6 : Addr) (f7 : Addr) (f8 : Addr) (u0 : Addr) (u1 : Addr) (u2 : Addr) (u3 : Addr) (u4 : Addr) (u5 : Addr) (u6 : Addr) (u7 : Addr) (sw : Addr) (kk : ClassId) (h0 : Heap) (n0 : Nat) (Z0 : n0 ≤ h0.size) (O0 : Old Z n0 h0) (G : Glob Z f0 f1 f2 f3 f4 f5 f6 f7 f8 u0 u1 u2 u3 u4 u5 u6 u7 sw kk) :
    Ctr l Z (⟨"com/example/dirbound/dirbound/cli/ExitCodeOfPinLaw", "expectedOf", "(I)Lcom/example/dirbound/dirbound/cli/ExitCode;"⟩ : MethodName) method_4_code 1 (some (.object "com/example/dirbound/dirbound/cli/ExitCode")) ({ frames := 0, cells := 0, slots := 0, locals := 0 } : Room) #[(.int 0)] h0 (fun v h L => v = some (.ref u0) ∧ Fr n0 L ∧ h = h0) := by
  refine Ctr.of (plainFor_of_name pn_c0) ?_
  intro p e s m below meth c T0 hx hZ hby hml hown hnm hret hlk e0 es X0
  refine Go.cast (ef_4_I m (0 : Int32)) ?_
  have G' := G
  obtain ⟨-, -, -, -, -, -, -, -, -, -, -, -, -, -, -, -, -, -, -, -, -, -, -, -, -, -, -, G27, -, -, -, -, -, -, -, -, -, -, -, -, -, -, -, -, -, -, -, -, -, -, -, -, -⟩ := G'
  refine Go.iloadN X0 hx (pc' := 1) rfl (hb hby d4_0) rfl ?_
  refine Go.ifNo X0 hx (pc' := 4) rfl (hb hby d4_1) (by decide) ?_
  have fk1 : Sta Z h0 "com/example/dirbound/dirbound/cli/ExitCode" "USAGE" "Lcom/example/dirbound/dirbound/cli/ExitCode;" (.ref u0) := G27.ext O0.2
  refine Go.getS X0 hx hZ hown (host := "") (Or.inl (tw_29 hw)) Via.refl e0 fk1 (pc' := 7) rfl (hb hby d4_4) ?_
  intro T2 e2 X2
  refine Go.retR X2 hx hlk (t := (.object "com/example/dirbound/dirbound/cli/ExitCode")) hret rfl rfl (hb hby d4_7) (by decide) (by decide) ?_
  rw [e2]
  exact ⟨rfl, (Fr.nil n0), rfl⟩
theorem pd_3 : parseMethodDescriptor "(I)Lcom/example/dirbound/dirbound/cli/ExitCode;" = some ⟨[.int], some (.object "com/example/dirbound/dirbound/cli/ExitCode")⟩ := by decide +kernel
theorem d5_0 : decode prog_34_method_5_code 0 = .ok (.aload_n 0, 1) := by decide +kernel
theorem d5_1 : decode prog_34_method_5_code 1 = .ok (.getfield 53, 3) := by decide +kernel
theorem d5_4 : decode prog_34_method_5_code 4 = .ok (.ireturn, 1) := by decide +kernel
theorem ef_5_R (m : MethodId) (x0 : Addr) : entryFrame m #[(.ref x0)] 1 = mkF m 0 #[.val (.ref x0)] [] := by first | (simp [entryFrame, mkF, argsToLocals, Value.category]; done) | rfl
-- com/example/dirbound/dirbound/cli/ExitCode.status
set_option maxRecDepth 65536 in
set_option maxHeartbeats 4000000 in
theorem au_5 (l : Launch) (Z : State) (a0 : Array Value) (hw : ∀ d ∈ tables_1, d.before a0 Z = true) (f0 : Addr) (f1 : Addr) (f2 : Addr) (f3 : Addr) (f4 : Addr) (f5 : Addr) (f6 : Addr) (f7 : Addr) (f8 : Addr) (u0 : Addr) (u1 : Addr) (u2 : Addr) (u3 : Addr) (u4 : Addr) (u5 : Addr) (u6 : Addr) (u7 : Addr) (sw : Addr) (kk : ClassId) (h0 : Heap) (n0 : Nat) (Z0 : n0 ≤ h0.size) (O0 : Old Z n0 h0) (G : Glob Z f0 f1 f2 f3 f4 f5 f6 f7 f8 u0 u1 u2 u3 u4 u5 u6 u7 sw kk) :
    Ctr l Z (⟨"com/example/dirbound/dirbound/cli/ExitCode", "status", "()I"⟩ : MethodName) prog_34_method_5_code 1 (some .int) ({ frames := 0, cells := 0, slots := 0, locals := 0 } : Room) #[(.ref u0)] h0 (fun v h L => v = some (.int 2) ∧ Fr n0 L ∧ h = h0) := by
  refine Ctr.of (plainFor_of_name pn_c2) ?_
  intro p e s m below meth c T0 hx hZ hby hml hown hnm hret hlk e0 es X0
  refine Go.cast (ef_5_R m u0) ?_
  have G' := G
  obtain ⟨-, -, -, -, -, -, -, -, -, -, -, -, -, -, -, -, -, -, -, -, -, -, -, -, -, -, -, -, -, G29, -, -, -, -, -, -, -, -, -, -, -, -, -, -, -, -, -, -, -, -, -, -, -⟩ := G'
  refine Go.aloadN X0 hx (pc' := 1) rfl (hb hby d5_0) rfl rfl ?_
  have fk1 : Fld Z h0 u0 "com/example/dirbound/dirbound/cli/ExitCode" "status" "I" (.int 2) := G29.ext O0.2
  refine Go.getF X0 hx hZ hown (host := "") (Or.inl (tw_35 hw)) Via.refl e0 fk1 (pc' := 4) rfl (hb hby d5_1) ?_
  intro T2 e2 X2
  refine Go.retI X2 hx hlk hret (hb hby d5_4) (by decide) (by decide) ?_
  rw [e2]
  exact ⟨rfl, (Fr.nil n0), rfl⟩
theorem d6_0 : decode method_5_code 0 = .ok (.iload_n 0, 1) := by decide +kernel
theorem d6_1 : decode method_5_code 1 = .ok (.bipush 6, 2) := by decide +kernel
theorem d6_3 : decode method_5_code 3 = .ok (.if_icmp .gt 7, 3) := by decide +kernel
theorem d6_6 : decode method_5_code 6 = .ok (.iload_n 0, 1) := by decide +kernel
theorem d6_7 : decode method_5_code 7 = .ok (.iconst 2, 1) := by decide +kernel
theorem d6_8 : decode method_5_code 8 = .ok (.iadd, 1) := by decide +kernel
theorem d6_9 : decode method_5_code 9 = .ok (.ireturn, 1) := by decide +kernel
theorem ef_6_I (m : MethodId) (x0 : Int32) : entryFrame m #[(.int x0)] 1 = mkF m 0 #[.val (.int x0)] [] := by first | (simp [entryFrame, mkF, argsToLocals, Value.category]; done) | rfl
-- com/example/dirbound/dirbound/cli/ExitCodeOfPinLaw.statusOf
set_option maxRecDepth 65536 in
set_option maxHeartbeats 4000000 in
theorem au_6 (l : Launch) (Z : State) (a0 : Array Value) (hw : ∀ d ∈ tables_1, d.before a0 Z = true)  (h0 : Heap) (n0 : Nat) (Z0 : n0 ≤ h0.size) :
    Ctr l Z (⟨"com/example/dirbound/dirbound/cli/ExitCodeOfPinLaw", "statusOf", "(I)I"⟩ : MethodName) method_5_code 1 (some .int) ({ frames := 0, cells := 0, slots := 0, locals := 0 } : Room) #[(.int 0)] h0 (fun v h L => v = some (.int 2) ∧ Fr n0 L ∧ h = h0) := by
  refine Ctr.of (plainFor_of_name pn_c0) ?_
  intro p e s m below meth c T0 hx hZ hby hml hown hnm hret hlk e0 es X0
  refine Go.cast (ef_6_I m (0 : Int32)) ?_
  refine Go.iloadN X0 hx (pc' := 1) rfl (hb hby d6_0) rfl ?_
  refine Go.bipush X0 hx (pc' := 3) rfl (hb hby d6_1) (v := (6 : Int32)) (by decide) ?_
  refine Go.icmpNo X0 hx (pc' := 6) rfl (hb hby d6_3) (by decide) ?_
  refine Go.iloadN X0 hx (pc' := 7) rfl (hb hby d6_6) rfl ?_
  refine Go.iconst X0 hx (pc' := 8) rfl (hb hby d6_7) (v := (2 : Int32)) rfl ?_
  refine Go.iadd X0 hx (pc' := 9) rfl (hb hby d6_8) ?_
  rw [show ((0 : Int32) + (2 : Int32)) = (2 : Int32) from by decide]
  refine Go.retI X0 hx hlk hret (hb hby d6_9) (by decide) (by decide) ?_
  rw [e0]
  exact ⟨rfl, (Fr.nil n0), rfl⟩
theorem pd_4 : parseMethodDescriptor "(I)I" = some ⟨[.int], some .int⟩ := by decide +kernel
theorem d1_8 : decode method_3_code 8 = .ok (.iload_n 0, 1) := by decide +kernel
theorem d1_9 : decode method_3_code 9 = .ok (.iconst 1, 1) := by decide +kernel
theorem d1_10 : decode method_3_code 10 = .ok (.if_icmp .ne 7, 3) := by decide +kernel
theorem d1_13 : decode method_3_code 13 = .ok (.getstatic 38, 3) := by decide +kernel
theorem d1_16 : decode method_3_code 16 = .ok (.areturn, 1) := by decide +kernel
-- com/example/dirbound/dirbound/cli/ExitCodeOfPinLaw.failureOf
set_option maxRecDepth 65536 in
set_option maxHeartbeats 4000000 in
theorem au_7 (l : Launch) (Z : State) (a0 : Array Value) (hw : ∀ d ∈ tables_1, d.before a0 Z = true) (f0 : Addr) (f1 : Addr) (f2 : Addr) (f3 : Addr) (f4 : Addr) (f5 : Addr) (f6 : Addr) (f7 : Addr) (f8 : Addr) (u0 : Addr) (u1 : Addr) (u2 : Addr) (u3 : Addr) (u4 : Addr) (u5 : Addr) (u6 : Addr) (u7 : Addr) (sw : Addr) (kk : ClassId) (h0 : Heap) (n0 : Nat) (Z0 : n0 ≤ h0.size) (O0 : Old Z n0 h0) (G : Glob Z f0 f1 f2 f3 f4 f5 f6 f7 f8 u0 u1 u2 u3 u4 u5 u6 u7 sw kk) :
    Ctr l Z (⟨"com/example/dirbound/dirbound/cli/ExitCodeOfPinLaw", "failureOf", "(I)Lcom/example/dirbound/dirbound/DirectoryException$Failure;"⟩ : MethodName) method_3_code 1 (some (.object "com/example/dirbound/dirbound/DirectoryException$Failure")) ({ frames := 0, cells := 0, slots := 0, locals := 0 } : Room) #[(.int 1)] h0 (fun v h L => v = some (.ref f1) ∧ Fr n0 L ∧ h = h0) := by
  refine Ctr.of (plainFor_of_name pn_c0) ?_
  intro p e s m below meth c T0 hx hZ hby hml hown hnm hret hlk e0 es X0
  refine Go.cast (ef_1_I m (1 : Int32)) ?_
  have G' := G
  obtain ⟨-, -, -, G3, -, -, -, -, -, -, -, -, -, -, -, -, -, -, -, -, -, -, -, -, -, -, -, -, -, -, -, -, -, -, -, -, -, -, -, -, -, -, -, -, -, -, -, -, -, -, -, -, -⟩ := G'
  refine Go.iloadN X0 hx (pc' := 1) rfl (hb hby d1_0) rfl ?_
  refine Go.ifYes X0 hx (pc' := 8) (hb hby d1_1) (by decide) (by decide) (by decide) ?_
  refine Go.iloadN X0 hx (pc' := 9) rfl (hb hby d1_8) rfl ?_
  refine Go.iconst X0 hx (pc' := 10) rfl (hb hby d1_9) (v := (1 : Int32)) rfl ?_
  refine Go.icmpNo X0 hx (pc' := 13) rfl (hb hby d1_10) (by decide) ?_
  have fk1 : Sta Z h0 "com/example/dirbound/dirbound/DirectoryException$Failure" "POLICY" "Lcom/example/dirbound/dirbound/DirectoryException$Failure;" (.ref f1) := G3.ext O0.2
  refine Go.getS X0 hx hZ hown (host := "") (Or.inl (tw_50 hw)) Via.refl e0 fk1 (pc' := 16) rfl (hb hby d1_13) ?_
  intro T2 e2 X2
  refine Go.retR X2 hx hlk (t := (.object "com/example/dirbound/dirbound/DirectoryException$Failure")) hret rfl rfl (hb hby d1_16) (by decide) (by decide) ?_
  rw [e2]
  exact ⟨rfl, (Fr.nil n0), rfl⟩
-- java/lang/Enum.ordinal
set_option maxRecDepth 65536 in
set_option maxHeartbeats 4000000 in
theorem au_9 (l : Launch) (Z : State) (a0 : Array Value) (hw : ∀ d ∈ tables_1, d.before a0 Z = true) (f0 : Addr) (f1 : Addr) (f2 : Addr) (f3 : Addr) (f4 : Addr) (f5 : Addr) (f6 : Addr) (f7 : Addr) (f8 : Addr) (u0 : Addr) (u1 : Addr) (u2 : Addr) (u3 : Addr) (u4 : Addr) (u5 : Addr) (u6 : Addr) (u7 : Addr) (sw : Addr) (kk : ClassId) (h0 : Heap) (n0 : Nat) (Z0 : n0 ≤ h0.size) (O0 : Old Z n0 h0) (G : Glob Z f0 f1 f2 f3 f4 f5 f6 f7 f8 u0 u1 u2 u3 u4 u5 u6 u7 sw kk) :
    Ctr l Z (⟨"java/lang/Enum", "ordinal", "()I"⟩ : MethodName) jdk_37_method_2_code 1 (some .int) ({ frames := 0, cells := 0, slots := 0, locals := 0 } : Room) #[(.ref f1)] h0 (fun v h L => v = some (.int 1) ∧ Fr n0 L ∧ h = h0) := by
  refine Ctr.of (plainFor_of_name pn_c1) ?_
  intro p e s m below meth c T0 hx hZ hby hml hown hnm hret hlk e0 es X0
  refine Go.cast (ef_3_R m f1) ?_
  have G' := G
  obtain ⟨-, -, -, -, -, G5, -, -, -, -, -, -, -, -, -, -, -, -, -, -, -, -, -, -, -, -, -, -, -, -, -, -, -, -, -, -, -, -, -, -, -, -, -, -, -, -, -, -, -, -, -, -, -⟩ := G'
  refine Go.aloadN X0 hx (pc' := 1) rfl (hb hby d3_0) rfl rfl ?_
  have fk1 : Fld Z h0 f1 "java/lang/Enum" "ordinal" "I" (.int 1) := G5.ext O0.2
  refine Go.getF X0 hx hZ hown (host := "") (Or.inl (tw_22 hw)) Via.refl e0 fk1 (pc' := 4) rfl (hb hby d3_1) ?_
  intro T2 e2 X2
  refine Go.retI X2 hx hlk hret (hb hby d3_4) (by decide) (by decide) ?_
  rw [e2]
  exact ⟨rfl, (Fr.nil n0), rfl⟩
theorem d2_76 : decode prog_34_method_4_code 76 = .ok (.getstatic 13, 3) := by decide +kernel
theorem d2_79 : decode prog_34_method_4_code 79 = .ok (.goto 36, 3) := by decide +kernel
-- com/example/dirbound/dirbound/cli/ExitCode.of
set_option maxRecDepth 65536 in
set_option maxHeartbeats 4000000 in
theorem au_8 (l : Launch) (Z : State) (a0 : Array Value) (hw : ∀ d ∈ tables_1, d.before a0 Z = true) (f0 : Addr) (f1 : Addr) (f2 : Addr) (f3 : Addr) (f4 : Addr) (f5 : Addr) (f6 : Addr) (f7 : Addr) (f8 : Addr) (u0 : Addr) (u1 : Addr) (u2 : Addr) (u3 : Addr) (u4 : Addr) (u5 : Addr) (u6 : Addr) (u7 : Addr) (sw : Addr) (kk : ClassId) (h0 : Heap) (n0 : Nat) (Z0 : n0 ≤ h0.size) (O0 : Old Z n0 h0) (G : Glob Z f0 f1 f2 f3 f4 f5 f6 f7 f8 u0 u1 u2 u3 u4 u5 u6 u7 sw kk) :
    Ctr l Z (⟨"com/example/dirbound/dirbound/cli/ExitCode", "of", "(Lcom/example/dirbound/dirbound/DirectoryException$Failure;)Lcom/example/dirbound/dirbound/cli/ExitCode;"⟩ : MethodName) prog_34_method_4_code 1 (some (.object "com/example/dirbound/dirbound/cli/ExitCode")) ({ frames := 1, cells := 0, slots := 0, locals := 13 } : Room) #[(.ref f1)] h0 (fun v h L => v = some (.ref u1) ∧ Fr n0 L ∧ h = h0) := by
  refine Ctr.of (plainFor_of_name pn_c2) ?_
  intro p e s m below meth c T0 hx hZ hby hml hown hnm hret hlk e0 es X0
  refine Go.cast (ef_2_R m f1) ?_
  have G' := G
  obtain ⟨-, -, -, -, G4, -, -, -, -, -, -, -, -, -, -, -, -, -, -, -, -, -, -, -, -, -, -, -, -, -, G30, -, -, -, -, -, -, -, -, -, -, -, -, -, -, -, -, -, -, -, -, G51, G52⟩ := G'
  have fk1 : Sta Z h0 "com/example/dirbound/dirbound/cli/ExitCode$1" "$SwitchMap$com$example$dirbound$dirbound$DirectoryException$Failure" "[I" (.ref sw) := G51.ext O0.2
  refine Go.getS X0 hx hZ hown (host := "") (Or.inl (tw_12 hw)) Via.refl e0 fk1 (pc' := 3) rfl (hb hby d2_0) ?_
  intro T2 e2 X2
  refine Go.aloadN X2 hx (pc' := 4) rfl (hb hby d2_3) rfl rfl ?_
  have fk3 : Exa Z h0 f1 "com/example/dirbound/dirbound/DirectoryException$Failure" := G4.ext O0.2
  refine Go.callU X2 hx hZ hown (tw_15 hw) (tw_16 hw) (tw_17 hw) (tw_19 hw) (tw_18 hw) (by decide) (tw_21 hw) (tw_20 hw) (au_9 l Z a0 hw f0 f1 f2 f3 f4 f5 f6 f7 f8 u0 u1 u2 u3 u4 u5 u6 u7 sw kk h0 n0 Z0 O0 G) e2 fk3 (argsL := []) (rest := [(.ref sw)]) (pc' := 7) rfl (by rw [hml]; rfl) (lenOf pd_1 rfl) rfl rfl (W := 1) (Nat.le_of_eq rfl) (by decide) (by decide) (by decide) (by decide) (hb hby d2_4) ?_
  intro v4 T4 L4 q4 X4
  obtain ⟨rfl, N4, e4⟩ := q4
  show Go _ _ _ _ (T4.setTop (mkF m 7 #[.val (.ref f1)] [(.int 1), (.ref sw)]))
  have fk5 : Arv Z h0 sw kk .int (9 : Int32) [(.int 1), (.int 2), (.int 3), (.int 4), (.int 5), (.int 6), (.int 7), (.int 8), (.int 9)] (.int (0 : Int32)) := G52.ext O0.2
  refine Go.iaload X4 hx hZ e4 fk5 (v := (.int 2)) ⟨by decide, by decide⟩ rfl (pc' := 8) rfl (hb hby d2_7) ?_
  refine Go.tswIn X4 hx (pc' := 76) (hb hby d2_8) (by decide) (o := 68) (by decide) (by decide) (by decide) ?_
  have fk6 : Sta Z h0 "com/example/dirbound/dirbound/cli/ExitCode" "POLICY" "Lcom/example/dirbound/dirbound/cli/ExitCode;" (.ref u1) := G30.ext O0.2
  refine Go.getS X4 hx hZ hown (host := "") (Or.inl (tw_52 hw)) Via.refl e4 fk6 (pc' := 79) rfl (hb hby d2_76) ?_
  intro T7 e7 X7
  refine Go.goto X7 hx (pc' := 115) (hb hby d2_79) (by decide) (by decide) ?_
  refine Go.retR X7 hx hlk (t := (.object "com/example/dirbound/dirbound/cli/ExitCode")) hret rfl rfl (hb hby d2_115) (by decide) (by decide) ?_
  rw [e7]
  exact ⟨rfl, (Fr.app (Fr.nil n0) N4), rfl⟩
theorem d4_8 : decode method_4_code 8 = .ok (.iload_n 0, 1) := by decide +kernel
theorem d4_9 : decode method_4_code 9 = .ok (.iconst 1, 1) := by decide +kernel
theorem d4_10 : decode method_4_code 10 = .ok (.if_icmp .ne 7, 3) := by decide +kernel
theorem d4_13 : decode method_4_code 13 = .ok (.getstatic 66, 3) := by decide +kernel
theorem d4_16 : decode method_4_code 16 = .ok (.areturn, 1) := by decide +kernel
-- com/example/dirbound/dirbound/cli/ExitCodeOfPinLaw.expectedOf
set_option maxRecDepth 65536 in
set_option maxHeartbeats 4000000 in
theorem au_10 (l : Launch) (Z : State) (a0 : Array Value) (hw : ∀ d ∈ tables_1, d.before a0 Z = true) (f0 : Addr) (f1 : Addr) (f2 : Addr) (f3 : Addr) (f4 : Addr) (f5 : Addr) (f6 : Addr) (f7 : Addr) (f8 : Addr) (u0 : Addr) (u1 : Addr) (u2 : Addr) (u3 : Addr) (u4 : Addr) (u5 : Addr) (u6 : Addr) (u7 : Addr) (sw : Addr) (kk : ClassId) (h0 : Heap) (n0 : Nat) (Z0 : n0 ≤ h0.size) (O0 : Old Z n0 h0) (G : Glob Z f0 f1 f2 f3 f4 f5 f6 f7 f8 u0 u1 u2 u3 u4 u5 u6 u7 sw kk) :
    Ctr l Z (⟨"com/example/dirbound/dirbound/cli/ExitCodeOfPinLaw", "expectedOf", "(I)Lcom/example/dirbound/dirbound/cli/ExitCode;"⟩ : MethodName) method_4_code 1 (some (.object "com/example/dirbound/dirbound/cli/ExitCode")) ({ frames := 0, cells := 0, slots := 0, locals := 0 } : Room) #[(.int 1)] h0 (fun v h L => v = some (.ref u1) ∧ Fr n0 L ∧ h = h0) := by
  refine Ctr.of (plainFor_of_name pn_c0) ?_
  intro p e s m below meth c T0 hx hZ hby hml hown hnm hret hlk e0 es X0
  refine Go.cast (ef_4_I m (1 : Int32)) ?_
  have G' := G
  obtain ⟨-, -, -, -, -, -, -, -, -, -, -, -, -, -, -, -, -, -, -, -, -, -, -, -, -, -, -, -, -, -, G30, -, -, -, -, -, -, -, -, -, -, -, -, -, -, -, -, -, -, -, -, -, -⟩ := G'
  refine Go.iloadN X0 hx (pc' := 1) rfl (hb hby d4_0) rfl ?_
  refine Go.ifYes X0 hx (pc' := 8) (hb hby d4_1) (by decide) (by decide) (by decide) ?_
  refine Go.iloadN X0 hx (pc' := 9) rfl (hb hby d4_8) rfl ?_
  refine Go.iconst X0 hx (pc' := 10) rfl (hb hby d4_9) (v := (1 : Int32)) rfl ?_
  refine Go.icmpNo X0 hx (pc' := 13) rfl (hb hby d4_10) (by decide) ?_
  have fk1 : Sta Z h0 "com/example/dirbound/dirbound/cli/ExitCode" "POLICY" "Lcom/example/dirbound/dirbound/cli/ExitCode;" (.ref u1) := G30.ext O0.2
  refine Go.getS X0 hx hZ hown (host := "") (Or.inl (tw_54 hw)) Via.refl e0 fk1 (pc' := 16) rfl (hb hby d4_13) ?_
  intro T2 e2 X2
  refine Go.retR X2 hx hlk (t := (.object "com/example/dirbound/dirbound/cli/ExitCode")) hret rfl rfl (hb hby d4_16) (by decide) (by decide) ?_
  rw [e2]
  exact ⟨rfl, (Fr.nil n0), rfl⟩
-- com/example/dirbound/dirbound/cli/ExitCode.status
set_option maxRecDepth 65536 in
set_option maxHeartbeats 4000000 in
theorem au_11 (l : Launch) (Z : State) (a0 : Array Value) (hw : ∀ d ∈ tables_1, d.before a0 Z = true) (f0 : Addr) (f1 : Addr) (f2 : Addr) (f3 : Addr) (f4 : Addr) (f5 : Addr) (f6 : Addr) (f7 : Addr) (f8 : Addr) (u0 : Addr) (u1 : Addr) (u2 : Addr) (u3 : Addr) (u4 : Addr) (u5 : Addr) (u6 : Addr) (u7 : Addr) (sw : Addr) (kk : ClassId) (h0 : Heap) (n0 : Nat) (Z0 : n0 ≤ h0.size) (O0 : Old Z n0 h0) (G : Glob Z f0 f1 f2 f3 f4 f5 f6 f7 f8 u0 u1 u2 u3 u4 u5 u6 u7 sw kk) :
    Ctr l Z (⟨"com/example/dirbound/dirbound/cli/ExitCode", "status", "()I"⟩ : MethodName) prog_34_method_5_code 1 (some .int) ({ frames := 0, cells := 0, slots := 0, locals := 0 } : Room) #[(.ref u1)] h0 (fun v h L => v = some (.int 3) ∧ Fr n0 L ∧ h = h0) := by
  refine Ctr.of (plainFor_of_name pn_c2) ?_
  intro p e s m below meth c T0 hx hZ hby hml hown hnm hret hlk e0 es X0
  refine Go.cast (ef_5_R m u1) ?_
  have G' := G
  obtain ⟨-, -, -, -, -, -, -, -, -, -, -, -, -, -, -, -, -, -, -, -, -, -, -, -, -, -, -, -, -, -, -, -, G32, -, -, -, -, -, -, -, -, -, -, -, -, -, -, -, -, -, -, -, -⟩ := G'
  refine Go.aloadN X0 hx (pc' := 1) rfl (hb hby d5_0) rfl rfl ?_
  have fk1 : Fld Z h0 u1 "com/example/dirbound/dirbound/cli/ExitCode" "status" "I" (.int 3) := G32.ext O0.2
  refine Go.getF X0 hx hZ hown (host := "") (Or.inl (tw_35 hw)) Via.refl e0 fk1 (pc' := 4) rfl (hb hby d5_1) ?_
  intro T2 e2 X2
  refine Go.retI X2 hx hlk hret (hb hby d5_4) (by decide) (by decide) ?_
  rw [e2]
  exact ⟨rfl, (Fr.nil n0), rfl⟩
-- com/example/dirbound/dirbound/cli/ExitCodeOfPinLaw.statusOf
set_option maxRecDepth 65536 in
set_option maxHeartbeats 4000000 in
theorem au_12 (l : Launch) (Z : State) (a0 : Array Value) (hw : ∀ d ∈ tables_1, d.before a0 Z = true)  (h0 : Heap) (n0 : Nat) (Z0 : n0 ≤ h0.size) :
    Ctr l Z (⟨"com/example/dirbound/dirbound/cli/ExitCodeOfPinLaw", "statusOf", "(I)I"⟩ : MethodName) method_5_code 1 (some .int) ({ frames := 0, cells := 0, slots := 0, locals := 0 } : Room) #[(.int 1)] h0 (fun v h L => v = some (.int 3) ∧ Fr n0 L ∧ h = h0) := by
  refine Ctr.of (plainFor_of_name pn_c0) ?_
  intro p e s m below meth c T0 hx hZ hby hml hown hnm hret hlk e0 es X0
  refine Go.cast (ef_6_I m (1 : Int32)) ?_
  refine Go.iloadN X0 hx (pc' := 1) rfl (hb hby d6_0) rfl ?_
  refine Go.bipush X0 hx (pc' := 3) rfl (hb hby d6_1) (v := (6 : Int32)) (by decide) ?_
  refine Go.icmpNo X0 hx (pc' := 6) rfl (hb hby d6_3) (by decide) ?_
  refine Go.iloadN X0 hx (pc' := 7) rfl (hb hby d6_6) rfl ?_
  refine Go.iconst X0 hx (pc' := 8) rfl (hb hby d6_7) (v := (2 : Int32)) rfl ?_
  refine Go.iadd X0 hx (pc' := 9) rfl (hb hby d6_8) ?_
  rw [show ((1 : Int32) + (2 : Int32)) = (3 : Int32) from by decide]
  refine Go.retI X0 hx hlk hret (hb hby d6_9) (by decide) (by decide) ?_
  rw [e0]
  exact ⟨rfl, (Fr.nil n0), rfl⟩
theorem d1_17 : decode method_3_code 17 = .ok (.iload_n 0, 1) := by decide +kernel
theorem d1_18 : decode method_3_code 18 = .ok (.iconst 2, 1) := by decide +kernel
theorem d1_19 : decode method_3_code 19 = .ok (.if_icmp .ne 7, 3) := by decide +kernel
theorem d1_22 : decode method_3_code 22 = .ok (.getstatic 41, 3) := by decide +kernel
theorem d1_25 : decode method_3_code 25 = .ok (.areturn, 1) := by decide +kernel
-- com/example/dirbound/dirbound/cli/ExitCodeOfPinLaw.failureOf
set_option maxRecDepth 65536 in
set_option maxHeartbeats 4000000 in
theorem au_13 (l : Launch) (Z : State) (a0 : Array Value) (hw : ∀ d ∈ tables_1, d.before a0 Z = true) (f0 : Addr) (f1 : Addr) (f2 : Addr) (f3 : Addr) (f4 : Addr) (f5 : Addr) (f6 : Addr) (f7 : Addr) (f8 : Addr) (u0 : Addr) (u1 : Addr) (u2 : Addr) (u3 : Addr) (u4 : Addr) (u5 : Addr) (u6 : Addr) (u7 : Addr) (sw : Addr) (kk : ClassId) (h0 : Heap) (n0 : Nat) (Z0 : n0 ≤ h0.size) (O0 : Old Z n0 h0) (G : Glob Z f0 f1 f2 f3 f4 f5 f6 f7 f8 u0 u1 u2 u3 u4 u5 u6 u7 sw kk) :
    Ctr l Z (⟨"com/example/dirbound/dirbound/cli/ExitCodeOfPinLaw", "failureOf", "(I)Lcom/example/dirbound/dirbound/DirectoryException$Failure;"⟩ : MethodName) method_3_code 1 (some (.object "com/example/dirbound/dirbound/DirectoryException$Failure")) ({ frames := 0, cells := 0, slots := 0, locals := 0 } : Room) #[(.int 2)] h0 (fun v h L => v = some (.ref f2) ∧ Fr n0 L ∧ h = h0) := by
  refine Ctr.of (plainFor_of_name pn_c0) ?_
  intro p e s m below meth c T0 hx hZ hby hml hown hnm hret hlk e0 es X0
  refine Go.cast (ef_1_I m (2 : Int32)) ?_
  have G' := G
  obtain ⟨-, -, -, -, -, -, G6, -, -, -, -, -, -, -, -, -, -, -, -, -, -, -, -, -, -, -, -, -, -, -, -, -, -, -, -, -, -, -, -, -, -, -, -, -, -, -, -, -, -, -, -, -, -⟩ := G'
  refine Go.iloadN X0 hx (pc' := 1) rfl (hb hby d1_0) rfl ?_
  refine Go.ifYes X0 hx (pc' := 8) (hb hby d1_1) (by decide) (by decide) (by decide) ?_
  refine Go.iloadN X0 hx (pc' := 9) rfl (hb hby d1_8) rfl ?_
  refine Go.iconst X0 hx (pc' := 10) rfl (hb hby d1_9) (v := (1 : Int32)) rfl ?_
  refine Go.icmpYes X0 hx (pc' := 17) (hb hby d1_10) (by decide) (by decide) (by decide) ?_
  refine Go.iloadN X0 hx (pc' := 18) rfl (hb hby d1_17) rfl ?_
  refine Go.iconst X0 hx (pc' := 19) rfl (hb hby d1_18) (v := (2 : Int32)) rfl ?_
  refine Go.icmpNo X0 hx (pc' := 22) rfl (hb hby d1_19) (by decide) ?_
  have fk1 : Sta Z h0 "com/example/dirbound/dirbound/DirectoryException$Failure" "NOT_FOUND" "Lcom/example/dirbound/dirbound/DirectoryException$Failure;" (.ref f2) := G6.ext O0.2
  refine Go.getS X0 hx hZ hown (host := "") (Or.inl (tw_45 hw)) Via.refl e0 fk1 (pc' := 25) rfl (hb hby d1_22) ?_
  intro T2 e2 X2
  refine Go.retR X2 hx hlk (t := (.object "com/example/dirbound/dirbound/DirectoryException$Failure")) hret rfl rfl (hb hby d1_25) (by decide) (by decide) ?_
  rw [e2]
  exact ⟨rfl, (Fr.nil n0), rfl⟩
-- java/lang/Enum.ordinal
set_option maxRecDepth 65536 in
set_option maxHeartbeats 4000000 in
theorem au_15 (l : Launch) (Z : State) (a0 : Array Value) (hw : ∀ d ∈ tables_1, d.before a0 Z = true) (f0 : Addr) (f1 : Addr) (f2 : Addr) (f3 : Addr) (f4 : Addr) (f5 : Addr) (f6 : Addr) (f7 : Addr) (f8 : Addr) (u0 : Addr) (u1 : Addr) (u2 : Addr) (u3 : Addr) (u4 : Addr) (u5 : Addr) (u6 : Addr) (u7 : Addr) (sw : Addr) (kk : ClassId) (h0 : Heap) (n0 : Nat) (Z0 : n0 ≤ h0.size) (O0 : Old Z n0 h0) (G : Glob Z f0 f1 f2 f3 f4 f5 f6 f7 f8 u0 u1 u2 u3 u4 u5 u6 u7 sw kk) :
    Ctr l Z (⟨"java/lang/Enum", "ordinal", "()I"⟩ : MethodName) jdk_37_method_2_code 1 (some .int) ({ frames := 0, cells := 0, slots := 0, locals := 0 } : Room) #[(.ref f2)] h0 (fun v h L => v = some (.int 2) ∧ Fr n0 L ∧ h = h0) := by
  refine Ctr.of (plainFor_of_name pn_c1) ?_
  intro p e s m below meth c T0 hx hZ hby hml hown hnm hret hlk e0 es X0
  refine Go.cast (ef_3_R m f2) ?_
  have G' := G
  obtain ⟨-, -, -, -, -, -, -, -, G8, -, -, -, -, -, -, -, -, -, -, -, -, -, -, -, -, -, -, -, -, -, -, -, -, -, -, -, -, -, -, -, -, -, -, -, -, -, -, -, -, -, -, -, -⟩ := G'
  refine Go.aloadN X0 hx (pc' := 1) rfl (hb hby d3_0) rfl rfl ?_
  have fk1 : Fld Z h0 f2 "java/lang/Enum" "ordinal" "I" (.int 2) := G8.ext O0.2
  refine Go.getF X0 hx hZ hown (host := "") (Or.inl (tw_22 hw)) Via.refl e0 fk1 (pc' := 4) rfl (hb hby d3_1) ?_
  intro T2 e2 X2
  refine Go.retI X2 hx hlk hret (hb hby d3_4) (by decide) (by decide) ?_
  rw [e2]
  exact ⟨rfl, (Fr.nil n0), rfl⟩
theorem d2_82 : decode prog_34_method_4_code 82 = .ok (.getstatic 16, 3) := by decide +kernel
theorem d2_85 : decode prog_34_method_4_code 85 = .ok (.goto 30, 3) := by decide +kernel
-- com/example/dirbound/dirbound/cli/ExitCode.of
set_option maxRecDepth 65536 in
set_option maxHeartbeats 4000000 in
theorem au_14 (l : Launch) (Z : State) (a0 : Array Value) (hw : ∀ d ∈ tables_1, d.before a0 Z = true) (f0 : Addr) (f1 : Addr) (f2 : Addr) (f3 : Addr) (f4 : Addr) (f5 : Addr) (f6 : Addr) (f7 : Addr) (f8 : Addr) (u0 : Addr) (u1 : Addr) (u2 : Addr) (u3 : Addr) (u4 : Addr) (u5 : Addr) (u6 : Addr) (u7 : Addr) (sw : Addr) (kk : ClassId) (h0 : Heap) (n0 : Nat) (Z0 : n0 ≤ h0.size) (O0 : Old Z n0 h0) (G : Glob Z f0 f1 f2 f3 f4 f5 f6 f7 f8 u0 u1 u2 u3 u4 u5 u6 u7 sw kk) :
    Ctr l Z (⟨"com/example/dirbound/dirbound/cli/ExitCode", "of", "(Lcom/example/dirbound/dirbound/DirectoryException$Failure;)Lcom/example/dirbound/dirbound/cli/ExitCode;"⟩ : MethodName) prog_34_method_4_code 1 (some (.object "com/example/dirbound/dirbound/cli/ExitCode")) ({ frames := 1, cells := 0, slots := 0, locals := 13 } : Room) #[(.ref f2)] h0 (fun v h L => v = some (.ref u2) ∧ Fr n0 L ∧ h = h0) := by
  refine Ctr.of (plainFor_of_name pn_c2) ?_
  intro p e s m below meth c T0 hx hZ hby hml hown hnm hret hlk e0 es X0
  refine Go.cast (ef_2_R m f2) ?_
  have G' := G
  obtain ⟨-, -, -, -, -, -, -, G7, -, -, -, -, -, -, -, -, -, -, -, -, -, -, -, -, -, -, -, -, -, -, -, -, -, G33, -, -, -, -, -, -, -, -, -, -, -, -, -, -, -, -, -, G51, G52⟩ := G'
  have fk1 : Sta Z h0 "com/example/dirbound/dirbound/cli/ExitCode$1" "$SwitchMap$com$example$dirbound$dirbound$DirectoryException$Failure" "[I" (.ref sw) := G51.ext O0.2
  refine Go.getS X0 hx hZ hown (host := "") (Or.inl (tw_12 hw)) Via.refl e0 fk1 (pc' := 3) rfl (hb hby d2_0) ?_
  intro T2 e2 X2
  refine Go.aloadN X2 hx (pc' := 4) rfl (hb hby d2_3) rfl rfl ?_
  have fk3 : Exa Z h0 f2 "com/example/dirbound/dirbound/DirectoryException$Failure" := G7.ext O0.2
  refine Go.callU X2 hx hZ hown (tw_15 hw) (tw_16 hw) (tw_17 hw) (tw_19 hw) (tw_18 hw) (by decide) (tw_21 hw) (tw_20 hw) (au_15 l Z a0 hw f0 f1 f2 f3 f4 f5 f6 f7 f8 u0 u1 u2 u3 u4 u5 u6 u7 sw kk h0 n0 Z0 O0 G) e2 fk3 (argsL := []) (rest := [(.ref sw)]) (pc' := 7) rfl (by rw [hml]; rfl) (lenOf pd_1 rfl) rfl rfl (W := 1) (Nat.le_of_eq rfl) (by decide) (by decide) (by decide) (by decide) (hb hby d2_4) ?_
  intro v4 T4 L4 q4 X4
  obtain ⟨rfl, N4, e4⟩ := q4
  show Go _ _ _ _ (T4.setTop (mkF m 7 #[.val (.ref f2)] [(.int 2), (.ref sw)]))
  have fk5 : Arv Z h0 sw kk .int (9 : Int32) [(.int 1), (.int 2), (.int 3), (.int 4), (.int 5), (.int 6), (.int 7), (.int 8), (.int 9)] (.int (0 : Int32)) := G52.ext O0.2
  refine Go.iaload X4 hx hZ e4 fk5 (v := (.int 3)) ⟨by decide, by decide⟩ rfl (pc' := 8) rfl (hb hby d2_7) ?_
  refine Go.tswIn X4 hx (pc' := 82) (hb hby d2_8) (by decide) (o := 74) (by decide) (by decide) (by decide) ?_
  have fk6 : Sta Z h0 "com/example/dirbound/dirbound/cli/ExitCode" "NOT_FOUND" "Lcom/example/dirbound/dirbound/cli/ExitCode;" (.ref u2) := G33.ext O0.2
  refine Go.getS X4 hx hZ hown (host := "") (Or.inl (tw_47 hw)) Via.refl e4 fk6 (pc' := 85) rfl (hb hby d2_82) ?_
  intro T7 e7 X7
  refine Go.goto X7 hx (pc' := 115) (hb hby d2_85) (by decide) (by decide) ?_
  refine Go.retR X7 hx hlk (t := (.object "com/example/dirbound/dirbound/cli/ExitCode")) hret rfl rfl (hb hby d2_115) (by decide) (by decide) ?_
  rw [e7]
  exact ⟨rfl, (Fr.app (Fr.nil n0) N4), rfl⟩
theorem d4_17 : decode method_4_code 17 = .ok (.iload_n 0, 1) := by decide +kernel
theorem d4_18 : decode method_4_code 18 = .ok (.iconst 2, 1) := by decide +kernel
theorem d4_19 : decode method_4_code 19 = .ok (.if_icmp .ne 7, 3) := by decide +kernel
theorem d4_22 : decode method_4_code 22 = .ok (.getstatic 68, 3) := by decide +kernel
theorem d4_25 : decode method_4_code 25 = .ok (.areturn, 1) := by decide +kernel
-- com/example/dirbound/dirbound/cli/ExitCodeOfPinLaw.expectedOf
set_option maxRecDepth 65536 in
set_option maxHeartbeats 4000000 in
theorem au_16 (l : Launch) (Z : State) (a0 : Array Value) (hw : ∀ d ∈ tables_1, d.before a0 Z = true) (f0 : Addr) (f1 : Addr) (f2 : Addr) (f3 : Addr) (f4 : Addr) (f5 : Addr) (f6 : Addr) (f7 : Addr) (f8 : Addr) (u0 : Addr) (u1 : Addr) (u2 : Addr) (u3 : Addr) (u4 : Addr) (u5 : Addr) (u6 : Addr) (u7 : Addr) (sw : Addr) (kk : ClassId) (h0 : Heap) (n0 : Nat) (Z0 : n0 ≤ h0.size) (O0 : Old Z n0 h0) (G : Glob Z f0 f1 f2 f3 f4 f5 f6 f7 f8 u0 u1 u2 u3 u4 u5 u6 u7 sw kk) :
    Ctr l Z (⟨"com/example/dirbound/dirbound/cli/ExitCodeOfPinLaw", "expectedOf", "(I)Lcom/example/dirbound/dirbound/cli/ExitCode;"⟩ : MethodName) method_4_code 1 (some (.object "com/example/dirbound/dirbound/cli/ExitCode")) ({ frames := 0, cells := 0, slots := 0, locals := 0 } : Room) #[(.int 2)] h0 (fun v h L => v = some (.ref u2) ∧ Fr n0 L ∧ h = h0) := by
  refine Ctr.of (plainFor_of_name pn_c0) ?_
  intro p e s m below meth c T0 hx hZ hby hml hown hnm hret hlk e0 es X0
  refine Go.cast (ef_4_I m (2 : Int32)) ?_
  have G' := G
  obtain ⟨-, -, -, -, -, -, -, -, -, -, -, -, -, -, -, -, -, -, -, -, -, -, -, -, -, -, -, -, -, -, -, -, -, G33, -, -, -, -, -, -, -, -, -, -, -, -, -, -, -, -, -, -, -⟩ := G'
  refine Go.iloadN X0 hx (pc' := 1) rfl (hb hby d4_0) rfl ?_
  refine Go.ifYes X0 hx (pc' := 8) (hb hby d4_1) (by decide) (by decide) (by decide) ?_
  refine Go.iloadN X0 hx (pc' := 9) rfl (hb hby d4_8) rfl ?_
  refine Go.iconst X0 hx (pc' := 10) rfl (hb hby d4_9) (v := (1 : Int32)) rfl ?_
  refine Go.icmpYes X0 hx (pc' := 17) (hb hby d4_10) (by decide) (by decide) (by decide) ?_
  refine Go.iloadN X0 hx (pc' := 18) rfl (hb hby d4_17) rfl ?_
  refine Go.iconst X0 hx (pc' := 19) rfl (hb hby d4_18) (v := (2 : Int32)) rfl ?_
  refine Go.icmpNo X0 hx (pc' := 22) rfl (hb hby d4_19) (by decide) ?_
  have fk1 : Sta Z h0 "com/example/dirbound/dirbound/cli/ExitCode" "NOT_FOUND" "Lcom/example/dirbound/dirbound/cli/ExitCode;" (.ref u2) := G33.ext O0.2
  refine Go.getS X0 hx hZ hown (host := "") (Or.inl (tw_49 hw)) Via.refl e0 fk1 (pc' := 25) rfl (hb hby d4_22) ?_
  intro T2 e2 X2
  refine Go.retR X2 hx hlk (t := (.object "com/example/dirbound/dirbound/cli/ExitCode")) hret rfl rfl (hb hby d4_25) (by decide) (by decide) ?_
  rw [e2]
  exact ⟨rfl, (Fr.nil n0), rfl⟩
-- com/example/dirbound/dirbound/cli/ExitCode.status
set_option maxRecDepth 65536 in
set_option maxHeartbeats 4000000 in
theorem au_17 (l : Launch) (Z : State) (a0 : Array Value) (hw : ∀ d ∈ tables_1, d.before a0 Z = true) (f0 : Addr) (f1 : Addr) (f2 : Addr) (f3 : Addr) (f4 : Addr) (f5 : Addr) (f6 : Addr) (f7 : Addr) (f8 : Addr) (u0 : Addr) (u1 : Addr) (u2 : Addr) (u3 : Addr) (u4 : Addr) (u5 : Addr) (u6 : Addr) (u7 : Addr) (sw : Addr) (kk : ClassId) (h0 : Heap) (n0 : Nat) (Z0 : n0 ≤ h0.size) (O0 : Old Z n0 h0) (G : Glob Z f0 f1 f2 f3 f4 f5 f6 f7 f8 u0 u1 u2 u3 u4 u5 u6 u7 sw kk) :
    Ctr l Z (⟨"com/example/dirbound/dirbound/cli/ExitCode", "status", "()I"⟩ : MethodName) prog_34_method_5_code 1 (some .int) ({ frames := 0, cells := 0, slots := 0, locals := 0 } : Room) #[(.ref u2)] h0 (fun v h L => v = some (.int 4) ∧ Fr n0 L ∧ h = h0) := by
  refine Ctr.of (plainFor_of_name pn_c2) ?_
  intro p e s m below meth c T0 hx hZ hby hml hown hnm hret hlk e0 es X0
  refine Go.cast (ef_5_R m u2) ?_
  have G' := G
  obtain ⟨-, -, -, -, -, -, -, -, -, -, -, -, -, -, -, -, -, -, -, -, -, -, -, -, -, -, -, -, -, -, -, -, -, -, -, G35, -, -, -, -, -, -, -, -, -, -, -, -, -, -, -, -, -⟩ := G'
  refine Go.aloadN X0 hx (pc' := 1) rfl (hb hby d5_0) rfl rfl ?_
  have fk1 : Fld Z h0 u2 "com/example/dirbound/dirbound/cli/ExitCode" "status" "I" (.int 4) := G35.ext O0.2
  refine Go.getF X0 hx hZ hown (host := "") (Or.inl (tw_35 hw)) Via.refl e0 fk1 (pc' := 4) rfl (hb hby d5_1) ?_
  intro T2 e2 X2
  refine Go.retI X2 hx hlk hret (hb hby d5_4) (by decide) (by decide) ?_
  rw [e2]
  exact ⟨rfl, (Fr.nil n0), rfl⟩
-- com/example/dirbound/dirbound/cli/ExitCodeOfPinLaw.statusOf
set_option maxRecDepth 65536 in
set_option maxHeartbeats 4000000 in
theorem au_18 (l : Launch) (Z : State) (a0 : Array Value) (hw : ∀ d ∈ tables_1, d.before a0 Z = true)  (h0 : Heap) (n0 : Nat) (Z0 : n0 ≤ h0.size) :
    Ctr l Z (⟨"com/example/dirbound/dirbound/cli/ExitCodeOfPinLaw", "statusOf", "(I)I"⟩ : MethodName) method_5_code 1 (some .int) ({ frames := 0, cells := 0, slots := 0, locals := 0 } : Room) #[(.int 2)] h0 (fun v h L => v = some (.int 4) ∧ Fr n0 L ∧ h = h0) := by
  refine Ctr.of (plainFor_of_name pn_c0) ?_
  intro p e s m below meth c T0 hx hZ hby hml hown hnm hret hlk e0 es X0
  refine Go.cast (ef_6_I m (2 : Int32)) ?_
  refine Go.iloadN X0 hx (pc' := 1) rfl (hb hby d6_0) rfl ?_
  refine Go.bipush X0 hx (pc' := 3) rfl (hb hby d6_1) (v := (6 : Int32)) (by decide) ?_
  refine Go.icmpNo X0 hx (pc' := 6) rfl (hb hby d6_3) (by decide) ?_
  refine Go.iloadN X0 hx (pc' := 7) rfl (hb hby d6_6) rfl ?_
  refine Go.iconst X0 hx (pc' := 8) rfl (hb hby d6_7) (v := (2 : Int32)) rfl ?_
  refine Go.iadd X0 hx (pc' := 9) rfl (hb hby d6_8) ?_
  rw [show ((2 : Int32) + (2 : Int32)) = (4 : Int32) from by decide]
  refine Go.retI X0 hx hlk hret (hb hby d6_9) (by decide) (by decide) ?_
  rw [e0]
  exact ⟨rfl, (Fr.nil n0), rfl⟩
theorem d1_26 : decode method_3_code 26 = .ok (.iload_n 0, 1) := by decide +kernel
theorem d1_27 : decode method_3_code 27 = .ok (.iconst 3, 1) := by decide +kernel
theorem d1_28 : decode method_3_code 28 = .ok (.if_icmp .ne 7, 3) := by decide +kernel
theorem d1_31 : decode method_3_code 31 = .ok (.getstatic 44, 3) := by decide +kernel
theorem d1_34 : decode method_3_code 34 = .ok (.areturn, 1) := by decide +kernel
-- com/example/dirbound/dirbound/cli/ExitCodeOfPinLaw.failureOf
set_option maxRecDepth 65536 in
set_option maxHeartbeats 4000000 in
theorem au_19 (l : Launch) (Z : State) (a0 : Array Value) (hw : ∀ d ∈ tables_1, d.before a0 Z = true) (f0 : Addr) (f1 : Addr) (f2 : Addr) (f3 : Addr) (f4 : Addr) (f5 : Addr) (f6 : Addr) (f7 : Addr) (f8 : Addr) (u0 : Addr) (u1 : Addr) (u2 : Addr) (u3 : Addr) (u4 : Addr) (u5 : Addr) (u6 : Addr) (u7 : Addr) (sw : Addr) (kk : ClassId) (h0 : Heap) (n0 : Nat) (Z0 : n0 ≤ h0.size) (O0 : Old Z n0 h0) (G : Glob Z f0 f1 f2 f3 f4 f5 f6 f7 f8 u0 u1 u2 u3 u4 u5 u6 u7 sw kk) :
    Ctr l Z (⟨"com/example/dirbound/dirbound/cli/ExitCodeOfPinLaw", "failureOf", "(I)Lcom/example/dirbound/dirbound/DirectoryException$Failure;"⟩ : MethodName) method_3_code 1 (some (.object "com/example/dirbound/dirbound/DirectoryException$Failure")) ({ frames := 0, cells := 0, slots := 0, locals := 0 } : Room) #[(.int 3)] h0 (fun v h L => v = some (.ref f3) ∧ Fr n0 L ∧ h = h0) := by
  refine Ctr.of (plainFor_of_name pn_c0) ?_
  intro p e s m below meth c T0 hx hZ hby hml hown hnm hret hlk e0 es X0
  refine Go.cast (ef_1_I m (3 : Int32)) ?_
  have G' := G
  obtain ⟨-, -, -, -, -, -, -, -, -, G9, -, -, -, -, -, -, -, -, -, -, -, -, -, -, -, -, -, -, -, -, -, -, -, -, -, -, -, -, -, -, -, -, -, -, -, -, -, -, -, -, -, -, -⟩ := G'
  refine Go.iloadN X0 hx (pc' := 1) rfl (hb hby d1_0) rfl ?_
  refine Go.ifYes X0 hx (pc' := 8) (hb hby d1_1) (by decide) (by decide) (by decide) ?_
  refine Go.iloadN X0 hx (pc' := 9) rfl (hb hby d1_8) rfl ?_
  refine Go.iconst X0 hx (pc' := 10) rfl (hb hby d1_9) (v := (1 : Int32)) rfl ?_
  refine Go.icmpYes X0 hx (pc' := 17) (hb hby d1_10) (by decide) (by decide) (by decide) ?_
  refine Go.iloadN X0 hx (pc' := 18) rfl (hb hby d1_17) rfl ?_
  refine Go.iconst X0 hx (pc' := 19) rfl (hb hby d1_18) (v := (2 : Int32)) rfl ?_
  refine Go.icmpYes X0 hx (pc' := 26) (hb hby d1_19) (by decide) (by decide) (by decide) ?_
  refine Go.iloadN X0 hx (pc' := 27) rfl (hb hby d1_26) rfl ?_
  refine Go.iconst X0 hx (pc' := 28) rfl (hb hby d1_27) (v := (3 : Int32)) rfl ?_
  refine Go.icmpNo X0 hx (pc' := 31) rfl (hb hby d1_28) (by decide) ?_
  have fk1 : Sta Z h0 "com/example/dirbound/dirbound/DirectoryException$Failure" "ALREADY_BOUND" "Lcom/example/dirbound/dirbound/DirectoryException$Failure;" (.ref f3) := G9.ext O0.2
  refine Go.getS X0 hx hZ hown (host := "") (Or.inl (tw_40 hw)) Via.refl e0 fk1 (pc' := 34) rfl (hb hby d1_31) ?_
  intro T2 e2 X2
  refine Go.retR X2 hx hlk (t := (.object "com/example/dirbound/dirbound/DirectoryException$Failure")) hret rfl rfl (hb hby d1_34) (by decide) (by decide) ?_
  rw [e2]
  exact ⟨rfl, (Fr.nil n0), rfl⟩
-- java/lang/Enum.ordinal
set_option maxRecDepth 65536 in
set_option maxHeartbeats 4000000 in
theorem au_21 (l : Launch) (Z : State) (a0 : Array Value) (hw : ∀ d ∈ tables_1, d.before a0 Z = true) (f0 : Addr) (f1 : Addr) (f2 : Addr) (f3 : Addr) (f4 : Addr) (f5 : Addr) (f6 : Addr) (f7 : Addr) (f8 : Addr) (u0 : Addr) (u1 : Addr) (u2 : Addr) (u3 : Addr) (u4 : Addr) (u5 : Addr) (u6 : Addr) (u7 : Addr) (sw : Addr) (kk : ClassId) (h0 : Heap) (n0 : Nat) (Z0 : n0 ≤ h0.size) (O0 : Old Z n0 h0) (G : Glob Z f0 f1 f2 f3 f4 f5 f6 f7 f8 u0 u1 u2 u3 u4 u5 u6 u7 sw kk) :
    Ctr l Z (⟨"java/lang/Enum", "ordinal", "()I"⟩ : MethodName) jdk_37_method_2_code 1 (some .int) ({ frames := 0, cells := 0, slots := 0, locals := 0 } : Room) #[(.ref f3)] h0 (fun v h L => v = some (.int 3) ∧ Fr n0 L ∧ h = h0) := by
  refine Ctr.of (plainFor_of_name pn_c1) ?_
  intro p e s m below meth c T0 hx hZ hby hml hown hnm hret hlk e0 es X0
  refine Go.cast (ef_3_R m f3) ?_
  have G' := G
  obtain ⟨-, -, -, -, -, -, -, -, -, -, -, G11, -, -, -, -, -, -, -, -, -, -, -, -, -, -, -, -, -, -, -, -, -, -, -, -, -, -, -, -, -, -, -, -, -, -, -, -, -, -, -, -, -⟩ := G'
  refine Go.aloadN X0 hx (pc' := 1) rfl (hb hby d3_0) rfl rfl ?_
  have fk1 : Fld Z h0 f3 "java/lang/Enum" "ordinal" "I" (.int 3) := G11.ext O0.2
  refine Go.getF X0 hx hZ hown (host := "") (Or.inl (tw_22 hw)) Via.refl e0 fk1 (pc' := 4) rfl (hb hby d3_1) ?_
  intro T2 e2 X2
  refine Go.retI X2 hx hlk hret (hb hby d3_4) (by decide) (by decide) ?_
  rw [e2]
  exact ⟨rfl, (Fr.nil n0), rfl⟩
theorem d2_88 : decode prog_34_method_4_code 88 = .ok (.getstatic 19, 3) := by decide +kernel
theorem d2_91 : decode prog_34_method_4_code 91 = .ok (.goto 24, 3) := by decide +kernel
-- com/example/dirbound/dirbound/cli/ExitCode.of
set_option maxRecDepth 65536 in
set_option maxHeartbeats 4000000 in
theorem au_20 (l : Launch) (Z : State) (a0 : Array Value) (hw : ∀ d ∈ tables_1, d.before a0 Z = true) (f0 : Addr) (f1 : Addr) (f2 : Addr) (f3 : Addr) (f4 : Addr) (f5 : Addr) (f6 : Addr) (f7 : Addr) (f8 : Addr) (u0 : Addr) (u1 : Addr) (u2 : Addr) (u3 : Addr) (u4 : Addr) (u5 : Addr) (u6 : Addr) (u7 : Addr) (sw : Addr) (kk : ClassId) (h0 : Heap) (n0 : Nat) (Z0 : n0 ≤ h0.size) (O0 : Old Z n0 h0) (G : Glob Z f0 f1 f2 f3 f4 f5 f6 f7 f8 u0 u1 u2 u3 u4 u5 u6 u7 sw kk) :
    Ctr l Z (⟨"com/example/dirbound/dirbound/cli/ExitCode", "of", "(Lcom/example/dirbound/dirbound/DirectoryException$Failure;)Lcom/example/dirbound/dirbound/cli/ExitCode;"⟩ : MethodName) prog_34_method_4_code 1 (some (.object "com/example/dirbound/dirbound/cli/ExitCode")) ({ frames := 1, cells := 0, slots := 0, locals := 13 } : Room) #[(.ref f3)] h0 (fun v h L => v = some (.ref u3) ∧ Fr n0 L ∧ h = h0) := by
  refine Ctr.of (plainFor_of_name pn_c2) ?_
  intro p e s m below meth c T0 hx hZ hby hml hown hnm hret hlk e0 es X0
  refine Go.cast (ef_2_R m f3) ?_
  have G' := G
  obtain ⟨-, -, -, -, -, -, -, -, -, -, G10, -, -, -, -, -, -, -, -, -, -, -, -, -, -, -, -, -, -, -, -, -, -, -, -, -, G36, -, -, -, -, -, -, -, -, -, -, -, -, -, -, G51, G52⟩ := G'
  have fk1 : Sta Z h0 "com/example/dirbound/dirbound/cli/ExitCode$1" "$SwitchMap$com$example$dirbound$dirbound$DirectoryException$Failure" "[I" (.ref sw) := G51.ext O0.2
  refine Go.getS X0 hx hZ hown (host := "") (Or.inl (tw_12 hw)) Via.refl e0 fk1 (pc' := 3) rfl (hb hby d2_0) ?_
  intro T2 e2 X2
  refine Go.aloadN X2 hx (pc' := 4) rfl (hb hby d2_3) rfl rfl ?_
  have fk3 : Exa Z h0 f3 "com/example/dirbound/dirbound/DirectoryException$Failure" := G10.ext O0.2
  refine Go.callU X2 hx hZ hown (tw_15 hw) (tw_16 hw) (tw_17 hw) (tw_19 hw) (tw_18 hw) (by decide) (tw_21 hw) (tw_20 hw) (au_21 l Z a0 hw f0 f1 f2 f3 f4 f5 f6 f7 f8 u0 u1 u2 u3 u4 u5 u6 u7 sw kk h0 n0 Z0 O0 G) e2 fk3 (argsL := []) (rest := [(.ref sw)]) (pc' := 7) rfl (by rw [hml]; rfl) (lenOf pd_1 rfl) rfl rfl (W := 1) (Nat.le_of_eq rfl) (by decide) (by decide) (by decide) (by decide) (hb hby d2_4) ?_
  intro v4 T4 L4 q4 X4
  obtain ⟨rfl, N4, e4⟩ := q4
  show Go _ _ _ _ (T4.setTop (mkF m 7 #[.val (.ref f3)] [(.int 3), (.ref sw)]))
  have fk5 : Arv Z h0 sw kk .int (9 : Int32) [(.int 1), (.int 2), (.int 3), (.int 4), (.int 5), (.int 6), (.int 7), (.int 8), (.int 9)] (.int (0 : Int32)) := G52.ext O0.2
  refine Go.iaload X4 hx hZ e4 fk5 (v := (.int 4)) ⟨by decide, by decide⟩ rfl (pc' := 8) rfl (hb hby d2_7) ?_
  refine Go.tswIn X4 hx (pc' := 88) (hb hby d2_8) (by decide) (o := 80) (by decide) (by decide) (by decide) ?_
  have fk6 : Sta Z h0 "com/example/dirbound/dirbound/cli/ExitCode" "ALREADY_BOUND" "Lcom/example/dirbound/dirbound/cli/ExitCode;" (.ref u3) := G36.ext O0.2
  refine Go.getS X4 hx hZ hown (host := "") (Or.inl (tw_42 hw)) Via.refl e4 fk6 (pc' := 91) rfl (hb hby d2_88) ?_
  intro T7 e7 X7
  refine Go.goto X7 hx (pc' := 115) (hb hby d2_91) (by decide) (by decide) ?_
  refine Go.retR X7 hx hlk (t := (.object "com/example/dirbound/dirbound/cli/ExitCode")) hret rfl rfl (hb hby d2_115) (by decide) (by decide) ?_
  rw [e7]
  exact ⟨rfl, (Fr.app (Fr.nil n0) N4), rfl⟩
theorem d4_26 : decode method_4_code 26 = .ok (.iload_n 0, 1) := by decide +kernel
theorem d4_27 : decode method_4_code 27 = .ok (.iconst 3, 1) := by decide +kernel
theorem d4_28 : decode method_4_code 28 = .ok (.if_icmp .ne 7, 3) := by decide +kernel
theorem d4_31 : decode method_4_code 31 = .ok (.getstatic 70, 3) := by decide +kernel
theorem d4_34 : decode method_4_code 34 = .ok (.areturn, 1) := by decide +kernel
-- com/example/dirbound/dirbound/cli/ExitCodeOfPinLaw.expectedOf
set_option maxRecDepth 65536 in
set_option maxHeartbeats 4000000 in
theorem au_22 (l : Launch) (Z : State) (a0 : Array Value) (hw : ∀ d ∈ tables_1, d.before a0 Z = true) (f0 : Addr) (f1 : Addr) (f2 : Addr) (f3 : Addr) (f4 : Addr) (f5 : Addr) (f6 : Addr) (f7 : Addr) (f8 : Addr) (u0 : Addr) (u1 : Addr) (u2 : Addr) (u3 : Addr) (u4 : Addr) (u5 : Addr) (u6 : Addr) (u7 : Addr) (sw : Addr) (kk : ClassId) (h0 : Heap) (n0 : Nat) (Z0 : n0 ≤ h0.size) (O0 : Old Z n0 h0) (G : Glob Z f0 f1 f2 f3 f4 f5 f6 f7 f8 u0 u1 u2 u3 u4 u5 u6 u7 sw kk) :
    Ctr l Z (⟨"com/example/dirbound/dirbound/cli/ExitCodeOfPinLaw", "expectedOf", "(I)Lcom/example/dirbound/dirbound/cli/ExitCode;"⟩ : MethodName) method_4_code 1 (some (.object "com/example/dirbound/dirbound/cli/ExitCode")) ({ frames := 0, cells := 0, slots := 0, locals := 0 } : Room) #[(.int 3)] h0 (fun v h L => v = some (.ref u3) ∧ Fr n0 L ∧ h = h0) := by
  refine Ctr.of (plainFor_of_name pn_c0) ?_
  intro p e s m below meth c T0 hx hZ hby hml hown hnm hret hlk e0 es X0
  refine Go.cast (ef_4_I m (3 : Int32)) ?_
  have G' := G
  obtain ⟨-, -, -, -, -, -, -, -, -, -, -, -, -, -, -, -, -, -, -, -, -, -, -, -, -, -, -, -, -, -, -, -, -, -, -, -, G36, -, -, -, -, -, -, -, -, -, -, -, -, -, -, -, -⟩ := G'
  refine Go.iloadN X0 hx (pc' := 1) rfl (hb hby d4_0) rfl ?_
  refine Go.ifYes X0 hx (pc' := 8) (hb hby d4_1) (by decide) (by decide) (by decide) ?_
  refine Go.iloadN X0 hx (pc' := 9) rfl (hb hby d4_8) rfl ?_
  refine Go.iconst X0 hx (pc' := 10) rfl (hb hby d4_9) (v := (1 : Int32)) rfl ?_
  refine Go.icmpYes X0 hx (pc' := 17) (hb hby d4_10) (by decide) (by decide) (by decide) ?_
  refine Go.iloadN X0 hx (pc' := 18) rfl (hb hby d4_17) rfl ?_
  refine Go.iconst X0 hx (pc' := 19) rfl (hb hby d4_18) (v := (2 : Int32)) rfl ?_
  refine Go.icmpYes X0 hx (pc' := 26) (hb hby d4_19) (by decide) (by decide) (by decide) ?_
  refine Go.iloadN X0 hx (pc' := 27) rfl (hb hby d4_26) rfl ?_
  refine Go.iconst X0 hx (pc' := 28) rfl (hb hby d4_27) (v := (3 : Int32)) rfl ?_
  refine Go.icmpNo X0 hx (pc' := 31) rfl (hb hby d4_28) (by decide) ?_
  have fk1 : Sta Z h0 "com/example/dirbound/dirbound/cli/ExitCode" "ALREADY_BOUND" "Lcom/example/dirbound/dirbound/cli/ExitCode;" (.ref u3) := G36.ext O0.2
  refine Go.getS X0 hx hZ hown (host := "") (Or.inl (tw_44 hw)) Via.refl e0 fk1 (pc' := 34) rfl (hb hby d4_31) ?_
  intro T2 e2 X2
  refine Go.retR X2 hx hlk (t := (.object "com/example/dirbound/dirbound/cli/ExitCode")) hret rfl rfl (hb hby d4_34) (by decide) (by decide) ?_
  rw [e2]
  exact ⟨rfl, (Fr.nil n0), rfl⟩
-- com/example/dirbound/dirbound/cli/ExitCode.status
set_option maxRecDepth 65536 in
set_option maxHeartbeats 4000000 in
theorem au_23 (l : Launch) (Z : State) (a0 : Array Value) (hw : ∀ d ∈ tables_1, d.before a0 Z = true) (f0 : Addr) (f1 : Addr) (f2 : Addr) (f3 : Addr) (f4 : Addr) (f5 : Addr) (f6 : Addr) (f7 : Addr) (f8 : Addr) (u0 : Addr) (u1 : Addr) (u2 : Addr) (u3 : Addr) (u4 : Addr) (u5 : Addr) (u6 : Addr) (u7 : Addr) (sw : Addr) (kk : ClassId) (h0 : Heap) (n0 : Nat) (Z0 : n0 ≤ h0.size) (O0 : Old Z n0 h0) (G : Glob Z f0 f1 f2 f3 f4 f5 f6 f7 f8 u0 u1 u2 u3 u4 u5 u6 u7 sw kk) :
    Ctr l Z (⟨"com/example/dirbound/dirbound/cli/ExitCode", "status", "()I"⟩ : MethodName) prog_34_method_5_code 1 (some .int) ({ frames := 0, cells := 0, slots := 0, locals := 0 } : Room) #[(.ref u3)] h0 (fun v h L => v = some (.int 5) ∧ Fr n0 L ∧ h = h0) := by
  refine Ctr.of (plainFor_of_name pn_c2) ?_
  intro p e s m below meth c T0 hx hZ hby hml hown hnm hret hlk e0 es X0
  refine Go.cast (ef_5_R m u3) ?_
  have G' := G
  obtain ⟨-, -, -, -, -, -, -, -, -, -, -, -, -, -, -, -, -, -, -, -, -, -, -, -, -, -, -, -, -, -, -, -, -, -, -, -, -, -, G38, -, -, -, -, -, -, -, -, -, -, -, -, -, -⟩ := G'
  refine Go.aloadN X0 hx (pc' := 1) rfl (hb hby d5_0) rfl rfl ?_
  have fk1 : Fld Z h0 u3 "com/example/dirbound/dirbound/cli/ExitCode" "status" "I" (.int 5) := G38.ext O0.2
  refine Go.getF X0 hx hZ hown (host := "") (Or.inl (tw_35 hw)) Via.refl e0 fk1 (pc' := 4) rfl (hb hby d5_1) ?_
  intro T2 e2 X2
  refine Go.retI X2 hx hlk hret (hb hby d5_4) (by decide) (by decide) ?_
  rw [e2]
  exact ⟨rfl, (Fr.nil n0), rfl⟩
-- com/example/dirbound/dirbound/cli/ExitCodeOfPinLaw.statusOf
set_option maxRecDepth 65536 in
set_option maxHeartbeats 4000000 in
theorem au_24 (l : Launch) (Z : State) (a0 : Array Value) (hw : ∀ d ∈ tables_1, d.before a0 Z = true)  (h0 : Heap) (n0 : Nat) (Z0 : n0 ≤ h0.size) :
    Ctr l Z (⟨"com/example/dirbound/dirbound/cli/ExitCodeOfPinLaw", "statusOf", "(I)I"⟩ : MethodName) method_5_code 1 (some .int) ({ frames := 0, cells := 0, slots := 0, locals := 0 } : Room) #[(.int 3)] h0 (fun v h L => v = some (.int 5) ∧ Fr n0 L ∧ h = h0) := by
  refine Ctr.of (plainFor_of_name pn_c0) ?_
  intro p e s m below meth c T0 hx hZ hby hml hown hnm hret hlk e0 es X0
  refine Go.cast (ef_6_I m (3 : Int32)) ?_
  refine Go.iloadN X0 hx (pc' := 1) rfl (hb hby d6_0) rfl ?_
  refine Go.bipush X0 hx (pc' := 3) rfl (hb hby d6_1) (v := (6 : Int32)) (by decide) ?_
  refine Go.icmpNo X0 hx (pc' := 6) rfl (hb hby d6_3) (by decide) ?_
  refine Go.iloadN X0 hx (pc' := 7) rfl (hb hby d6_6) rfl ?_
  refine Go.iconst X0 hx (pc' := 8) rfl (hb hby d6_7) (v := (2 : Int32)) rfl ?_
  refine Go.iadd X0 hx (pc' := 9) rfl (hb hby d6_8) ?_
  rw [show ((3 : Int32) + (2 : Int32)) = (5 : Int32) from by decide]
  refine Go.retI X0 hx hlk hret (hb hby d6_9) (by decide) (by decide) ?_
  rw [e0]
  exact ⟨rfl, (Fr.nil n0), rfl⟩
theorem d1_35 : decode method_3_code 35 = .ok (.iload_n 0, 1) := by decide +kernel
theorem d1_36 : decode method_3_code 36 = .ok (.iconst 4, 1) := by decide +kernel
theorem d1_37 : decode method_3_code 37 = .ok (.if_icmp .ne 7, 3) := by decide +kernel
theorem d1_40 : decode method_3_code 40 = .ok (.getstatic 47, 3) := by decide +kernel
theorem d1_43 : decode method_3_code 43 = .ok (.areturn, 1) := by decide +kernel
-- com/example/dirbound/dirbound/cli/ExitCodeOfPinLaw.failureOf
set_option maxRecDepth 65536 in
set_option maxHeartbeats 4000000 in
theorem au_25 (l : Launch) (Z : State) (a0 : Array Value) (hw : ∀ d ∈ tables_1, d.before a0 Z = true) (f0 : Addr) (f1 : Addr) (f2 : Addr) (f3 : Addr) (f4 : Addr) (f5 : Addr) (f6 : Addr) (f7 : Addr) (f8 : Addr) (u0 : Addr) (u1 : Addr) (u2 : Addr) (u3 : Addr) (u4 : Addr) (u5 : Addr) (u6 : Addr) (u7 : Addr) (sw : Addr) (kk : ClassId) (h0 : Heap) (n0 : Nat) (Z0 : n0 ≤ h0.size) (O0 : Old Z n0 h0) (G : Glob Z f0 f1 f2 f3 f4 f5 f6 f7 f8 u0 u1 u2 u3 u4 u5 u6 u7 sw kk) :
    Ctr l Z (⟨"com/example/dirbound/dirbound/cli/ExitCodeOfPinLaw", "failureOf", "(I)Lcom/example/dirbound/dirbound/DirectoryException$Failure;"⟩ : MethodName) method_3_code 1 (some (.object "com/example/dirbound/dirbound/DirectoryException$Failure")) ({ frames := 0, cells := 0, slots := 0, locals := 0 } : Room) #[(.int 4)] h0 (fun v h L => v = some (.ref f4) ∧ Fr n0 L ∧ h = h0) := by
  refine Ctr.of (plainFor_of_name pn_c0) ?_
  intro p e s m below meth c T0 hx hZ hby hml hown hnm hret hlk e0 es X0
  refine Go.cast (ef_1_I m (4 : Int32)) ?_
  have G' := G
  obtain ⟨-, -, -, -, -, -, -, -, -, -, -, -, G12, -, -, -, -, -, -, -, -, -, -, -, -, -, -, -, -, -, -, -, -, -, -, -, -, -, -, -, -, -, -, -, -, -, -, -, -, -, -, -, -⟩ := G'
  refine Go.iloadN X0 hx (pc' := 1) rfl (hb hby d1_0) rfl ?_
  refine Go.ifYes X0 hx (pc' := 8) (hb hby d1_1) (by decide) (by decide) (by decide) ?_
  refine Go.iloadN X0 hx (pc' := 9) rfl (hb hby d1_8) rfl ?_
  refine Go.iconst X0 hx (pc' := 10) rfl (hb hby d1_9) (v := (1 : Int32)) rfl ?_
  refine Go.icmpYes X0 hx (pc' := 17) (hb hby d1_10) (by decide) (by decide) (by decide) ?_
  refine Go.iloadN X0 hx (pc' := 18) rfl (hb hby d1_17) rfl ?_
  refine Go.iconst X0 hx (pc' := 19) rfl (hb hby d1_18) (v := (2 : Int32)) rfl ?_
  refine Go.icmpYes X0 hx (pc' := 26) (hb hby d1_19) (by decide) (by decide) (by decide) ?_
  refine Go.iloadN X0 hx (pc' := 27) rfl (hb hby d1_26) rfl ?_
  refine Go.iconst X0 hx (pc' := 28) rfl (hb hby d1_27) (v := (3 : Int32)) rfl ?_
  refine Go.icmpYes X0 hx (pc' := 35) (hb hby d1_28) (by decide) (by decide) (by decide) ?_
  refine Go.iloadN X0 hx (pc' := 36) rfl (hb hby d1_35) rfl ?_
  refine Go.iconst X0 hx (pc' := 37) rfl (hb hby d1_36) (v := (4 : Int32)) rfl ?_
  refine Go.icmpNo X0 hx (pc' := 40) rfl (hb hby d1_37) (by decide) ?_
  have fk1 : Sta Z h0 "com/example/dirbound/dirbound/DirectoryException$Failure" "UNREACHABLE" "Lcom/example/dirbound/dirbound/DirectoryException$Failure;" (.ref f4) := G12.ext O0.2
  refine Go.getS X0 hx hZ hown (host := "") (Or.inl (tw_60 hw)) Via.refl e0 fk1 (pc' := 43) rfl (hb hby d1_40) ?_
  intro T2 e2 X2
  refine Go.retR X2 hx hlk (t := (.object "com/example/dirbound/dirbound/DirectoryException$Failure")) hret rfl rfl (hb hby d1_43) (by decide) (by decide) ?_
  rw [e2]
  exact ⟨rfl, (Fr.nil n0), rfl⟩
-- java/lang/Enum.ordinal
set_option maxRecDepth 65536 in
set_option maxHeartbeats 4000000 in
theorem au_27 (l : Launch) (Z : State) (a0 : Array Value) (hw : ∀ d ∈ tables_1, d.before a0 Z = true) (f0 : Addr) (f1 : Addr) (f2 : Addr) (f3 : Addr) (f4 : Addr) (f5 : Addr) (f6 : Addr) (f7 : Addr) (f8 : Addr) (u0 : Addr) (u1 : Addr) (u2 : Addr) (u3 : Addr) (u4 : Addr) (u5 : Addr) (u6 : Addr) (u7 : Addr) (sw : Addr) (kk : ClassId) (h0 : Heap) (n0 : Nat) (Z0 : n0 ≤ h0.size) (O0 : Old Z n0 h0) (G : Glob Z f0 f1 f2 f3 f4 f5 f6 f7 f8 u0 u1 u2 u3 u4 u5 u6 u7 sw kk) :
    Ctr l Z (⟨"java/lang/Enum", "ordinal", "()I"⟩ : MethodName) jdk_37_method_2_code 1 (some .int) ({ frames := 0, cells := 0, slots := 0, locals := 0 } : Room) #[(.ref f4)] h0 (fun v h L => v = some (.int 4) ∧ Fr n0 L ∧ h = h0) := by
  refine Ctr.of (plainFor_of_name pn_c1) ?_
  intro p e s m below meth c T0 hx hZ hby hml hown hnm hret hlk e0 es X0
  refine Go.cast (ef_3_R m f4) ?_
  have G' := G
  obtain ⟨-, -, -, -, -, -, -, -, -, -, -, -, -, -, G14, -, -, -, -, -, -, -, -, -, -, -, -, -, -, -, -, -, -, -, -, -, -, -, -, -, -, -, -, -, -, -, -, -, -, -, -, -, -⟩ := G'
  refine Go.aloadN X0 hx (pc' := 1) rfl (hb hby d3_0) rfl rfl ?_
  have fk1 : Fld Z h0 f4 "java/lang/Enum" "ordinal" "I" (.int 4) := G14.ext O0.2
  refine Go.getF X0 hx hZ hown (host := "") (Or.inl (tw_22 hw)) Via.refl e0 fk1 (pc' := 4) rfl (hb hby d3_1) ?_
  intro T2 e2 X2
  refine Go.retI X2 hx hlk hret (hb hby d3_4) (by decide) (by decide) ?_
  rw [e2]
  exact ⟨rfl, (Fr.nil n0), rfl⟩
theorem d2_94 : decode prog_34_method_4_code 94 = .ok (.getstatic 22, 3) := by decide +kernel
theorem d2_97 : decode prog_34_method_4_code 97 = .ok (.goto 18, 3) := by decide +kernel
-- com/example/dirbound/dirbound/cli/ExitCode.of
set_option maxRecDepth 65536 in
set_option maxHeartbeats 4000000 in
theorem au_26 (l : Launch) (Z : State) (a0 : Array Value) (hw : ∀ d ∈ tables_1, d.before a0 Z = true) (f0 : Addr) (f1 : Addr) (f2 : Addr) (f3 : Addr) (f4 : Addr) (f5 : Addr) (f6 : Addr) (f7 : Addr) (f8 : Addr) (u0 : Addr) (u1 : Addr) (u2 : Addr) (u3 : Addr) (u4 : Addr) (u5 : Addr) (u6 : Addr) (u7 : Addr) (sw : Addr) (kk : ClassId) (h0 : Heap) (n0 : Nat) (Z0 : n0 ≤ h0.size) (O0 : Old Z n0 h0) (G : Glob Z f0 f1 f2 f3 f4 f5 f6 f7 f8 u0 u1 u2 u3 u4 u5 u6 u7 sw kk) :
    Ctr l Z (⟨"com/example/dirbound/dirbound/cli/ExitCode", "of", "(Lcom/example/dirbound/dirbound/DirectoryException$Failure;)Lcom/example/dirbound/dirbound/cli/ExitCode;"⟩ : MethodName) prog_34_method_4_code 1 (some (.object "com/example/dirbound/dirbound/cli/ExitCode")) ({ frames := 1, cells := 0, slots := 0, locals := 13 } : Room) #[(.ref f4)] h0 (fun v h L => v = some (.ref u4) ∧ Fr n0 L ∧ h = h0) := by
  refine Ctr.of (plainFor_of_name pn_c2) ?_
  intro p e s m below meth c T0 hx hZ hby hml hown hnm hret hlk e0 es X0
  refine Go.cast (ef_2_R m f4) ?_
  have G' := G
  obtain ⟨-, -, -, -, -, -, -, -, -, -, -, -, -, G13, -, -, -, -, -, -, -, -, -, -, -, -, -, -, -, -, -, -, -, -, -, -, -, -, -, G39, -, -, -, -, -, -, -, -, -, -, -, G51, G52⟩ := G'
  have fk1 : Sta Z h0 "com/example/dirbound/dirbound/cli/ExitCode$1" "$SwitchMap$com$example$dirbound$dirbound$DirectoryException$Failure" "[I" (.ref sw) := G51.ext O0.2
  refine Go.getS X0 hx hZ hown (host := "") (Or.inl (tw_12 hw)) Via.refl e0 fk1 (pc' := 3) rfl (hb hby d2_0) ?_
  intro T2 e2 X2
  refine Go.aloadN X2 hx (pc' := 4) rfl (hb hby d2_3) rfl rfl ?_
  have fk3 : Exa Z h0 f4 "com/example/dirbound/dirbound/DirectoryException$Failure" := G13.ext O0.2
  refine Go.callU X2 hx hZ hown (tw_15 hw) (tw_16 hw) (tw_17 hw) (tw_19 hw) (tw_18 hw) (by decide) (tw_21 hw) (tw_20 hw) (au_27 l Z a0 hw f0 f1 f2 f3 f4 f5 f6 f7 f8 u0 u1 u2 u3 u4 u5 u6 u7 sw kk h0 n0 Z0 O0 G) e2 fk3 (argsL := []) (rest := [(.ref sw)]) (pc' := 7) rfl (by rw [hml]; rfl) (lenOf pd_1 rfl) rfl rfl (W := 1) (Nat.le_of_eq rfl) (by decide) (by decide) (by decide) (by decide) (hb hby d2_4) ?_
  intro v4 T4 L4 q4 X4
  obtain ⟨rfl, N4, e4⟩ := q4
  show Go _ _ _ _ (T4.setTop (mkF m 7 #[.val (.ref f4)] [(.int 4), (.ref sw)]))
  have fk5 : Arv Z h0 sw kk .int (9 : Int32) [(.int 1), (.int 2), (.int 3), (.int 4), (.int 5), (.int 6), (.int 7), (.int 8), (.int 9)] (.int (0 : Int32)) := G52.ext O0.2
  refine Go.iaload X4 hx hZ e4 fk5 (v := (.int 5)) ⟨by decide, by decide⟩ rfl (pc' := 8) rfl (hb hby d2_7) ?_
  refine Go.tswIn X4 hx (pc' := 94) (hb hby d2_8) (by decide) (o := 86) (by decide) (by decide) (by decide) ?_
  have fk6 : Sta Z h0 "com/example/dirbound/dirbound/cli/ExitCode" "UNREACHABLE" "Lcom/example/dirbound/dirbound/cli/ExitCode;" (.ref u4) := G39.ext O0.2
  refine Go.getS X4 hx hZ hown (host := "") (Or.inl (tw_62 hw)) Via.refl e4 fk6 (pc' := 97) rfl (hb hby d2_94) ?_
  intro T7 e7 X7
  refine Go.goto X7 hx (pc' := 115) (hb hby d2_97) (by decide) (by decide) ?_
  refine Go.retR X7 hx hlk (t := (.object "com/example/dirbound/dirbound/cli/ExitCode")) hret rfl rfl (hb hby d2_115) (by decide) (by decide) ?_
  rw [e7]
  exact ⟨rfl, (Fr.app (Fr.nil n0) N4), rfl⟩
theorem d4_35 : decode method_4_code 35 = .ok (.iload_n 0, 1) := by decide +kernel
theorem d4_36 : decode method_4_code 36 = .ok (.iconst 4, 1) := by decide +kernel
theorem d4_37 : decode method_4_code 37 = .ok (.if_icmp .ne 7, 3) := by decide +kernel
theorem d4_40 : decode method_4_code 40 = .ok (.getstatic 72, 3) := by decide +kernel
theorem d4_43 : decode method_4_code 43 = .ok (.areturn, 1) := by decide +kernel
-- com/example/dirbound/dirbound/cli/ExitCodeOfPinLaw.expectedOf
set_option maxRecDepth 65536 in
set_option maxHeartbeats 4000000 in
theorem au_28 (l : Launch) (Z : State) (a0 : Array Value) (hw : ∀ d ∈ tables_1, d.before a0 Z = true) (f0 : Addr) (f1 : Addr) (f2 : Addr) (f3 : Addr) (f4 : Addr) (f5 : Addr) (f6 : Addr) (f7 : Addr) (f8 : Addr) (u0 : Addr) (u1 : Addr) (u2 : Addr) (u3 : Addr) (u4 : Addr) (u5 : Addr) (u6 : Addr) (u7 : Addr) (sw : Addr) (kk : ClassId) (h0 : Heap) (n0 : Nat) (Z0 : n0 ≤ h0.size) (O0 : Old Z n0 h0) (G : Glob Z f0 f1 f2 f3 f4 f5 f6 f7 f8 u0 u1 u2 u3 u4 u5 u6 u7 sw kk) :
    Ctr l Z (⟨"com/example/dirbound/dirbound/cli/ExitCodeOfPinLaw", "expectedOf", "(I)Lcom/example/dirbound/dirbound/cli/ExitCode;"⟩ : MethodName) method_4_code 1 (some (.object "com/example/dirbound/dirbound/cli/ExitCode")) ({ frames := 0, cells := 0, slots := 0, locals := 0 } : Room) #[(.int 4)] h0 (fun v h L => v = some (.ref u4) ∧ Fr n0 L ∧ h = h0) := by
  refine Ctr.of (plainFor_of_name pn_c0) ?_
  intro p e s m below meth c T0 hx hZ hby hml hown hnm hret hlk e0 es X0
  refine Go.cast (ef_4_I m (4 : Int32)) ?_
  have G' := G
  obtain ⟨-, -, -, -, -, -, -, -, -, -, -, -, -, -, -, -, -, -, -, -, -, -, -, -, -, -, -, -, -, -, -, -, -, -, -, -, -, -, -, G39, -, -, -, -, -, -, -, -, -, -, -, -, -⟩ := G'
  refine Go.iloadN X0 hx (pc' := 1) rfl (hb hby d4_0) rfl ?_
  refine Go.ifYes X0 hx (pc' := 8) (hb hby d4_1) (by decide) (by decide) (by decide) ?_
  refine Go.iloadN X0 hx (pc' := 9) rfl (hb hby d4_8) rfl ?_
  refine Go.iconst X0 hx (pc' := 10) rfl (hb hby d4_9) (v := (1 : Int32)) rfl ?_
  refine Go.icmpYes X0 hx (pc' := 17) (hb hby d4_10) (by decide) (by decide) (by decide) ?_
  refine Go.iloadN X0 hx (pc' := 18) rfl (hb hby d4_17) rfl ?_
  refine Go.iconst X0 hx (pc' := 19) rfl (hb hby d4_18) (v := (2 : Int32)) rfl ?_
  refine Go.icmpYes X0 hx (pc' := 26) (hb hby d4_19) (by decide) (by decide) (by decide) ?_
  refine Go.iloadN X0 hx (pc' := 27) rfl (hb hby d4_26) rfl ?_
  refine Go.iconst X0 hx (pc' := 28) rfl (hb hby d4_27) (v := (3 : Int32)) rfl ?_
  refine Go.icmpYes X0 hx (pc' := 35) (hb hby d4_28) (by decide) (by decide) (by decide) ?_
  refine Go.iloadN X0 hx (pc' := 36) rfl (hb hby d4_35) rfl ?_
  refine Go.iconst X0 hx (pc' := 37) rfl (hb hby d4_36) (v := (4 : Int32)) rfl ?_
  refine Go.icmpNo X0 hx (pc' := 40) rfl (hb hby d4_37) (by decide) ?_
  have fk1 : Sta Z h0 "com/example/dirbound/dirbound/cli/ExitCode" "UNREACHABLE" "Lcom/example/dirbound/dirbound/cli/ExitCode;" (.ref u4) := G39.ext O0.2
  refine Go.getS X0 hx hZ hown (host := "") (Or.inl (tw_64 hw)) Via.refl e0 fk1 (pc' := 43) rfl (hb hby d4_40) ?_
  intro T2 e2 X2
  refine Go.retR X2 hx hlk (t := (.object "com/example/dirbound/dirbound/cli/ExitCode")) hret rfl rfl (hb hby d4_43) (by decide) (by decide) ?_
  rw [e2]
  exact ⟨rfl, (Fr.nil n0), rfl⟩
-- com/example/dirbound/dirbound/cli/ExitCode.status
set_option maxRecDepth 65536 in
set_option maxHeartbeats 4000000 in
theorem au_29 (l : Launch) (Z : State) (a0 : Array Value) (hw : ∀ d ∈ tables_1, d.before a0 Z = true) (f0 : Addr) (f1 : Addr) (f2 : Addr) (f3 : Addr) (f4 : Addr) (f5 : Addr) (f6 : Addr) (f7 : Addr) (f8 : Addr) (u0 : Addr) (u1 : Addr) (u2 : Addr) (u3 : Addr) (u4 : Addr) (u5 : Addr) (u6 : Addr) (u7 : Addr) (sw : Addr) (kk : ClassId) (h0 : Heap) (n0 : Nat) (Z0 : n0 ≤ h0.size) (O0 : Old Z n0 h0) (G : Glob Z f0 f1 f2 f3 f4 f5 f6 f7 f8 u0 u1 u2 u3 u4 u5 u6 u7 sw kk) :
    Ctr l Z (⟨"com/example/dirbound/dirbound/cli/ExitCode", "status", "()I"⟩ : MethodName) prog_34_method_5_code 1 (some .int) ({ frames := 0, cells := 0, slots := 0, locals := 0 } : Room) #[(.ref u4)] h0 (fun v h L => v = some (.int 6) ∧ Fr n0 L ∧ h = h0) := by
  refine Ctr.of (plainFor_of_name pn_c2) ?_
  intro p e s m below meth c T0 hx hZ hby hml hown hnm hret hlk e0 es X0
  refine Go.cast (ef_5_R m u4) ?_
  have G' := G
  obtain ⟨-, -, -, -, -, -, -, -, -, -, -, -, -, -, -, -, -, -, -, -, -, -, -, -, -, -, -, -, -, -, -, -, -, -, -, -, -, -, -, -, -, G41, -, -, -, -, -, -, -, -, -, -, -⟩ := G'
  refine Go.aloadN X0 hx (pc' := 1) rfl (hb hby d5_0) rfl rfl ?_
  have fk1 : Fld Z h0 u4 "com/example/dirbound/dirbound/cli/ExitCode" "status" "I" (.int 6) := G41.ext O0.2
  refine Go.getF X0 hx hZ hown (host := "") (Or.inl (tw_35 hw)) Via.refl e0 fk1 (pc' := 4) rfl (hb hby d5_1) ?_
  intro T2 e2 X2
  refine Go.retI X2 hx hlk hret (hb hby d5_4) (by decide) (by decide) ?_
  rw [e2]
  exact ⟨rfl, (Fr.nil n0), rfl⟩
-- com/example/dirbound/dirbound/cli/ExitCodeOfPinLaw.statusOf
set_option maxRecDepth 65536 in
set_option maxHeartbeats 4000000 in
theorem au_30 (l : Launch) (Z : State) (a0 : Array Value) (hw : ∀ d ∈ tables_1, d.before a0 Z = true)  (h0 : Heap) (n0 : Nat) (Z0 : n0 ≤ h0.size) :
    Ctr l Z (⟨"com/example/dirbound/dirbound/cli/ExitCodeOfPinLaw", "statusOf", "(I)I"⟩ : MethodName) method_5_code 1 (some .int) ({ frames := 0, cells := 0, slots := 0, locals := 0 } : Room) #[(.int 4)] h0 (fun v h L => v = some (.int 6) ∧ Fr n0 L ∧ h = h0) := by
  refine Ctr.of (plainFor_of_name pn_c0) ?_
  intro p e s m below meth c T0 hx hZ hby hml hown hnm hret hlk e0 es X0
  refine Go.cast (ef_6_I m (4 : Int32)) ?_
  refine Go.iloadN X0 hx (pc' := 1) rfl (hb hby d6_0) rfl ?_
  refine Go.bipush X0 hx (pc' := 3) rfl (hb hby d6_1) (v := (6 : Int32)) (by decide) ?_
  refine Go.icmpNo X0 hx (pc' := 6) rfl (hb hby d6_3) (by decide) ?_
  refine Go.iloadN X0 hx (pc' := 7) rfl (hb hby d6_6) rfl ?_
  refine Go.iconst X0 hx (pc' := 8) rfl (hb hby d6_7) (v := (2 : Int32)) rfl ?_
  refine Go.iadd X0 hx (pc' := 9) rfl (hb hby d6_8) ?_
  rw [show ((4 : Int32) + (2 : Int32)) = (6 : Int32) from by decide]
  refine Go.retI X0 hx hlk hret (hb hby d6_9) (by decide) (by decide) ?_
  rw [e0]
  exact ⟨rfl, (Fr.nil n0), rfl⟩
theorem d1_44 : decode method_3_code 44 = .ok (.iload_n 0, 1) := by decide +kernel
theorem d1_45 : decode method_3_code 45 = .ok (.iconst 5, 1) := by decide +kernel
theorem d1_46 : decode method_3_code 46 = .ok (.if_icmp .ne 7, 3) := by decide +kernel
theorem d1_49 : decode method_3_code 49 = .ok (.getstatic 50, 3) := by decide +kernel
theorem d1_52 : decode method_3_code 52 = .ok (.areturn, 1) := by decide +kernel
-- com/example/dirbound/dirbound/cli/ExitCodeOfPinLaw.failureOf
set_option maxRecDepth 65536 in
set_option maxHeartbeats 4000000 in
theorem au_31 (l : Launch) (Z : State) (a0 : Array Value) (hw : ∀ d ∈ tables_1, d.before a0 Z = true) (f0 : Addr) (f1 : Addr) (f2 : Addr) (f3 : Addr) (f4 : Addr) (f5 : Addr) (f6 : Addr) (f7 : Addr) (f8 : Addr) (u0 : Addr) (u1 : Addr) (u2 : Addr) (u3 : Addr) (u4 : Addr) (u5 : Addr) (u6 : Addr) (u7 : Addr) (sw : Addr) (kk : ClassId) (h0 : Heap) (n0 : Nat) (Z0 : n0 ≤ h0.size) (O0 : Old Z n0 h0) (G : Glob Z f0 f1 f2 f3 f4 f5 f6 f7 f8 u0 u1 u2 u3 u4 u5 u6 u7 sw kk) :
    Ctr l Z (⟨"com/example/dirbound/dirbound/cli/ExitCodeOfPinLaw", "failureOf", "(I)Lcom/example/dirbound/dirbound/DirectoryException$Failure;"⟩ : MethodName) method_3_code 1 (some (.object "com/example/dirbound/dirbound/DirectoryException$Failure")) ({ frames := 0, cells := 0, slots := 0, locals := 0 } : Room) #[(.int 5)] h0 (fun v h L => v = some (.ref f5) ∧ Fr n0 L ∧ h = h0) := by
  refine Ctr.of (plainFor_of_name pn_c0) ?_
  intro p e s m below meth c T0 hx hZ hby hml hown hnm hret hlk e0 es X0
  refine Go.cast (ef_1_I m (5 : Int32)) ?_
  have G' := G
  obtain ⟨-, -, -, -, -, -, -, -, -, -, -, -, -, -, -, G15, -, -, -, -, -, -, -, -, -, -, -, -, -, -, -, -, -, -, -, -, -, -, -, -, -, -, -, -, -, -, -, -, -, -, -, -, -⟩ := G'
  refine Go.iloadN X0 hx (pc' := 1) rfl (hb hby d1_0) rfl ?_
  refine Go.ifYes X0 hx (pc' := 8) (hb hby d1_1) (by decide) (by decide) (by decide) ?_
  refine Go.iloadN X0 hx (pc' := 9) rfl (hb hby d1_8) rfl ?_
  refine Go.iconst X0 hx (pc' := 10) rfl (hb hby d1_9) (v := (1 : Int32)) rfl ?_
  refine Go.icmpYes X0 hx (pc' := 17) (hb hby d1_10) (by decide) (by decide) (by decide) ?_
  refine Go.iloadN X0 hx (pc' := 18) rfl (hb hby d1_17) rfl ?_
  refine Go.iconst X0 hx (pc' := 19) rfl (hb hby d1_18) (v := (2 : Int32)) rfl ?_
  refine Go.icmpYes X0 hx (pc' := 26) (hb hby d1_19) (by decide) (by decide) (by decide) ?_
  refine Go.iloadN X0 hx (pc' := 27) rfl (hb hby d1_26) rfl ?_
  refine Go.iconst X0 hx (pc' := 28) rfl (hb hby d1_27) (v := (3 : Int32)) rfl ?_
  refine Go.icmpYes X0 hx (pc' := 35) (hb hby d1_28) (by decide) (by decide) (by decide) ?_
  refine Go.iloadN X0 hx (pc' := 36) rfl (hb hby d1_35) rfl ?_
  refine Go.iconst X0 hx (pc' := 37) rfl (hb hby d1_36) (v := (4 : Int32)) rfl ?_
  refine Go.icmpYes X0 hx (pc' := 44) (hb hby d1_37) (by decide) (by decide) (by decide) ?_
  refine Go.iloadN X0 hx (pc' := 45) rfl (hb hby d1_44) rfl ?_
  refine Go.iconst X0 hx (pc' := 46) rfl (hb hby d1_45) (v := (5 : Int32)) rfl ?_
  refine Go.icmpNo X0 hx (pc' := 49) rfl (hb hby d1_46) (by decide) ?_
  have fk1 : Sta Z h0 "com/example/dirbound/dirbound/DirectoryException$Failure" "MALFORMED" "Lcom/example/dirbound/dirbound/DirectoryException$Failure;" (.ref f5) := G15.ext O0.2
  refine Go.getS X0 hx hZ hown (host := "") (Or.inl (tw_72 hw)) Via.refl e0 fk1 (pc' := 52) rfl (hb hby d1_49) ?_
  intro T2 e2 X2
  refine Go.retR X2 hx hlk (t := (.object "com/example/dirbound/dirbound/DirectoryException$Failure")) hret rfl rfl (hb hby d1_52) (by decide) (by decide) ?_
  rw [e2]
  exact ⟨rfl, (Fr.nil n0), rfl⟩
-- java/lang/Enum.ordinal
set_option maxRecDepth 65536 in
set_option maxHeartbeats 4000000 in
theorem au_33 (l : Launch) (Z : State) (a0 : Array Value) (hw : ∀ d ∈ tables_1, d.before a0 Z = true) (f0 : Addr) (f1 : Addr) (f2 : Addr) (f3 : Addr) (f4 : Addr) (f5 : Addr) (f6 : Addr) (f7 : Addr) (f8 : Addr) (u0 : Addr) (u1 : Addr) (u2 : Addr) (u3 : Addr) (u4 : Addr) (u5 : Addr) (u6 : Addr) (u7 : Addr) (sw : Addr) (kk : ClassId) (h0 : Heap) (n0 : Nat) (Z0 : n0 ≤ h0.size) (O0 : Old Z n0 h0) (G : Glob Z f0 f1 f2 f3 f4 f5 f6 f7 f8 u0 u1 u2 u3 u4 u5 u6 u7 sw kk) :
    Ctr l Z (⟨"java/lang/Enum", "ordinal", "()I"⟩ : MethodName) jdk_37_method_2_code 1 (some .int) ({ frames := 0, cells := 0, slots := 0, locals := 0 } : Room) #[(.ref f5)] h0 (fun v h L => v = some (.int 5) ∧ Fr n0 L ∧ h = h0) := by
  refine Ctr.of (plainFor_of_name pn_c1) ?_
  intro p e s m below meth c T0 hx hZ hby hml hown hnm hret hlk e0 es X0
  refine Go.cast (ef_3_R m f5) ?_
  have G' := G
  obtain ⟨-, -, -, -, -, -, -, -, -, -, -, -, -, -, -, -, -, G17, -, -, -, -, -, -, -, -, -, -, -, -, -, -, -, -, -, -, -, -, -, -, -, -, -, -, -, -, -, -, -, -, -, -, -⟩ := G'
  refine Go.aloadN X0 hx (pc' := 1) rfl (hb hby d3_0) rfl rfl ?_
  have fk1 : Fld Z h0 f5 "java/lang/Enum" "ordinal" "I" (.int 5) := G17.ext O0.2
  refine Go.getF X0 hx hZ hown (host := "") (Or.inl (tw_22 hw)) Via.refl e0 fk1 (pc' := 4) rfl (hb hby d3_1) ?_
  intro T2 e2 X2
  refine Go.retI X2 hx hlk hret (hb hby d3_4) (by decide) (by decide) ?_
  rw [e2]
  exact ⟨rfl, (Fr.nil n0), rfl⟩
theorem d2_100 : decode prog_34_method_4_code 100 = .ok (.getstatic 25, 3) := by decide +kernel
theorem d2_103 : decode prog_34_method_4_code 103 = .ok (.goto 12, 3) := by decide +kernel
-- com/example/dirbound/dirbound/cli/ExitCode.of
set_option maxRecDepth 65536 in
set_option maxHeartbeats 4000000 in
theorem au_32 (l : Launch) (Z : State) (a0 : Array Value) (hw : ∀ d ∈ tables_1, d.before a0 Z = true) (f0 : Addr) (f1 : Addr) (f2 : Addr) (f3 : Addr) (f4 : Addr) (f5 : Addr) (f6 : Addr) (f7 : Addr) (f8 : Addr) (u0 : Addr) (u1 : Addr) (u2 : Addr) (u3 : Addr) (u4 : Addr) (u5 : Addr) (u6 : Addr) (u7 : Addr) (sw : Addr) (kk : ClassId) (h0 : Heap) (n0 : Nat) (Z0 : n0 ≤ h0.size) (O0 : Old Z n0 h0) (G : Glob Z f0 f1 f2 f3 f4 f5 f6 f7 f8 u0 u1 u2 u3 u4 u5 u6 u7 sw kk) :
    Ctr l Z (⟨"com/example/dirbound/dirbound/cli/ExitCode", "of", "(Lcom/example/dirbound/dirbound/DirectoryException$Failure;)Lcom/example/dirbound/dirbound/cli/ExitCode;"⟩ : MethodName) prog_34_method_4_code 1 (some (.object "com/example/dirbound/dirbound/cli/ExitCode")) ({ frames := 1, cells := 0, slots := 0, locals := 13 } : Room) #[(.ref f5)] h0 (fun v h L => v = some (.ref u5) ∧ Fr n0 L ∧ h = h0) := by
  refine Ctr.of (plainFor_of_name pn_c2) ?_
  intro p e s m below meth c T0 hx hZ hby hml hown hnm hret hlk e0 es X0
  refine Go.cast (ef_2_R m f5) ?_
  have G' := G
  obtain ⟨-, -, -, -, -, -, -, -, -, -, -, -, -, -, -, -, G16, -, -, -, -, -, -, -, -, -, -, -, -, -, -, -, -, -, -, -, -, -, -, -, -, -, G42, -, -, -, -, -, -, -, -, G51, G52⟩ := G'
  have fk1 : Sta Z h0 "com/example/dirbound/dirbound/cli/ExitCode$1" "$SwitchMap$com$example$dirbound$dirbound$DirectoryException$Failure" "[I" (.ref sw) := G51.ext O0.2
  refine Go.getS X0 hx hZ hown (host := "") (Or.inl (tw_12 hw)) Via.refl e0 fk1 (pc' := 3) rfl (hb hby d2_0) ?_
  intro T2 e2 X2
  refine Go.aloadN X2 hx (pc' := 4) rfl (hb hby d2_3) rfl rfl ?_
  have fk3 : Exa Z h0 f5 "com/example/dirbound/dirbound/DirectoryException$Failure" := G16.ext O0.2
  refine Go.callU X2 hx hZ hown (tw_15 hw) (tw_16 hw) (tw_17 hw) (tw_19 hw) (tw_18 hw) (by decide) (tw_21 hw) (tw_20 hw) (au_33 l Z a0 hw f0 f1 f2 f3 f4 f5 f6 f7 f8 u0 u1 u2 u3 u4 u5 u6 u7 sw kk h0 n0 Z0 O0 G) e2 fk3 (argsL := []) (rest := [(.ref sw)]) (pc' := 7) rfl (by rw [hml]; rfl) (lenOf pd_1 rfl) rfl rfl (W := 1) (Nat.le_of_eq rfl) (by decide) (by decide) (by decide) (by decide) (hb hby d2_4) ?_
  intro v4 T4 L4 q4 X4
  obtain ⟨rfl, N4, e4⟩ := q4
  show Go _ _ _ _ (T4.setTop (mkF m 7 #[.val (.ref f5)] [(.int 5), (.ref sw)]))
  have fk5 : Arv Z h0 sw kk .int (9 : Int32) [(.int 1), (.int 2), (.int 3), (.int 4), (.int 5), (.int 6), (.int 7), (.int 8), (.int 9)] (.int (0 : Int32)) := G52.ext O0.2
  refine Go.iaload X4 hx hZ e4 fk5 (v := (.int 6)) ⟨by decide, by decide⟩ rfl (pc' := 8) rfl (hb hby d2_7) ?_
  refine Go.tswIn X4 hx (pc' := 100) (hb hby d2_8) (by decide) (o := 92) (by decide) (by decide) (by decide) ?_
  have fk6 : Sta Z h0 "com/example/dirbound/dirbound/cli/ExitCode" "MALFORMED" "Lcom/example/dirbound/dirbound/cli/ExitCode;" (.ref u5) := G42.ext O0.2
  refine Go.getS X4 hx hZ hown (host := "") (Or.inl (tw_74 hw)) Via.refl e4 fk6 (pc' := 103) rfl (hb hby d2_100) ?_
  intro T7 e7 X7
  refine Go.goto X7 hx (pc' := 115) (hb hby d2_103) (by decide) (by decide) ?_
  refine Go.retR X7 hx hlk (t := (.object "com/example/dirbound/dirbound/cli/ExitCode")) hret rfl rfl (hb hby d2_115) (by decide) (by decide) ?_
  rw [e7]
  exact ⟨rfl, (Fr.app (Fr.nil n0) N4), rfl⟩
theorem d4_44 : decode method_4_code 44 = .ok (.iload_n 0, 1) := by decide +kernel
theorem d4_45 : decode method_4_code 45 = .ok (.iconst 5, 1) := by decide +kernel
theorem d4_46 : decode method_4_code 46 = .ok (.if_icmp .ne 7, 3) := by decide +kernel
theorem d4_49 : decode method_4_code 49 = .ok (.getstatic 74, 3) := by decide +kernel
theorem d4_52 : decode method_4_code 52 = .ok (.areturn, 1) := by decide +kernel
-- com/example/dirbound/dirbound/cli/ExitCodeOfPinLaw.expectedOf
set_option maxRecDepth 65536 in
set_option maxHeartbeats 4000000 in
theorem au_34 (l : Launch) (Z : State) (a0 : Array Value) (hw : ∀ d ∈ tables_1, d.before a0 Z = true) (f0 : Addr) (f1 : Addr) (f2 : Addr) (f3 : Addr) (f4 : Addr) (f5 : Addr) (f6 : Addr) (f7 : Addr) (f8 : Addr) (u0 : Addr) (u1 : Addr) (u2 : Addr) (u3 : Addr) (u4 : Addr) (u5 : Addr) (u6 : Addr) (u7 : Addr) (sw : Addr) (kk : ClassId) (h0 : Heap) (n0 : Nat) (Z0 : n0 ≤ h0.size) (O0 : Old Z n0 h0) (G : Glob Z f0 f1 f2 f3 f4 f5 f6 f7 f8 u0 u1 u2 u3 u4 u5 u6 u7 sw kk) :
    Ctr l Z (⟨"com/example/dirbound/dirbound/cli/ExitCodeOfPinLaw", "expectedOf", "(I)Lcom/example/dirbound/dirbound/cli/ExitCode;"⟩ : MethodName) method_4_code 1 (some (.object "com/example/dirbound/dirbound/cli/ExitCode")) ({ frames := 0, cells := 0, slots := 0, locals := 0 } : Room) #[(.int 5)] h0 (fun v h L => v = some (.ref u5) ∧ Fr n0 L ∧ h = h0) := by
  refine Ctr.of (plainFor_of_name pn_c0) ?_
  intro p e s m below meth c T0 hx hZ hby hml hown hnm hret hlk e0 es X0
  refine Go.cast (ef_4_I m (5 : Int32)) ?_
  have G' := G
  obtain ⟨-, -, -, -, -, -, -, -, -, -, -, -, -, -, -, -, -, -, -, -, -, -, -, -, -, -, -, -, -, -, -, -, -, -, -, -, -, -, -, -, -, -, G42, -, -, -, -, -, -, -, -, -, -⟩ := G'
  refine Go.iloadN X0 hx (pc' := 1) rfl (hb hby d4_0) rfl ?_
  refine Go.ifYes X0 hx (pc' := 8) (hb hby d4_1) (by decide) (by decide) (by decide) ?_
  refine Go.iloadN X0 hx (pc' := 9) rfl (hb hby d4_8) rfl ?_
  refine Go.iconst X0 hx (pc' := 10) rfl (hb hby d4_9) (v := (1 : Int32)) rfl ?_
  refine Go.icmpYes X0 hx (pc' := 17) (hb hby d4_10) (by decide) (by decide) (by decide) ?_
  refine Go.iloadN X0 hx (pc' := 18) rfl (hb hby d4_17) rfl ?_
  refine Go.iconst X0 hx (pc' := 19) rfl (hb hby d4_18) (v := (2 : Int32)) rfl ?_
  refine Go.icmpYes X0 hx (pc' := 26) (hb hby d4_19) (by decide) (by decide) (by decide) ?_
  refine Go.iloadN X0 hx (pc' := 27) rfl (hb hby d4_26) rfl ?_
  refine Go.iconst X0 hx (pc' := 28) rfl (hb hby d4_27) (v := (3 : Int32)) rfl ?_
  refine Go.icmpYes X0 hx (pc' := 35) (hb hby d4_28) (by decide) (by decide) (by decide) ?_
  refine Go.iloadN X0 hx (pc' := 36) rfl (hb hby d4_35) rfl ?_
  refine Go.iconst X0 hx (pc' := 37) rfl (hb hby d4_36) (v := (4 : Int32)) rfl ?_
  refine Go.icmpYes X0 hx (pc' := 44) (hb hby d4_37) (by decide) (by decide) (by decide) ?_
  refine Go.iloadN X0 hx (pc' := 45) rfl (hb hby d4_44) rfl ?_
  refine Go.iconst X0 hx (pc' := 46) rfl (hb hby d4_45) (v := (5 : Int32)) rfl ?_
  refine Go.icmpNo X0 hx (pc' := 49) rfl (hb hby d4_46) (by decide) ?_
  have fk1 : Sta Z h0 "com/example/dirbound/dirbound/cli/ExitCode" "MALFORMED" "Lcom/example/dirbound/dirbound/cli/ExitCode;" (.ref u5) := G42.ext O0.2
  refine Go.getS X0 hx hZ hown (host := "") (Or.inl (tw_76 hw)) Via.refl e0 fk1 (pc' := 52) rfl (hb hby d4_49) ?_
  intro T2 e2 X2
  refine Go.retR X2 hx hlk (t := (.object "com/example/dirbound/dirbound/cli/ExitCode")) hret rfl rfl (hb hby d4_52) (by decide) (by decide) ?_
  rw [e2]
  exact ⟨rfl, (Fr.nil n0), rfl⟩
-- com/example/dirbound/dirbound/cli/ExitCode.status
set_option maxRecDepth 65536 in
set_option maxHeartbeats 4000000 in
theorem au_35 (l : Launch) (Z : State) (a0 : Array Value) (hw : ∀ d ∈ tables_1, d.before a0 Z = true) (f0 : Addr) (f1 : Addr) (f2 : Addr) (f3 : Addr) (f4 : Addr) (f5 : Addr) (f6 : Addr) (f7 : Addr) (f8 : Addr) (u0 : Addr) (u1 : Addr) (u2 : Addr) (u3 : Addr) (u4 : Addr) (u5 : Addr) (u6 : Addr) (u7 : Addr) (sw : Addr) (kk : ClassId) (h0 : Heap) (n0 : Nat) (Z0 : n0 ≤ h0.size) (O0 : Old Z n0 h0) (G : Glob Z f0 f1 f2 f3 f4 f5 f6 f7 f8 u0 u1 u2 u3 u4 u5 u6 u7 sw kk) :
    Ctr l Z (⟨"com/example/dirbound/dirbound/cli/ExitCode", "status", "()I"⟩ : MethodName) prog_34_method_5_code 1 (some .int) ({ frames := 0, cells := 0, slots := 0, locals := 0 } : Room) #[(.ref u5)] h0 (fun v h L => v = some (.int 7) ∧ Fr n0 L ∧ h = h0) := by
  refine Ctr.of (plainFor_of_name pn_c2) ?_
  intro p e s m below meth c T0 hx hZ hby hml hown hnm hret hlk e0 es X0
  refine Go.cast (ef_5_R m u5) ?_
  have G' := G
  obtain ⟨-, -, -, -, -, -, -, -, -, -, -, -, -, -, -, -, -, -, -, -, -, -, -, -, -, -, -, -, -, -, -, -, -, -, -, -, -, -, -, -, -, -, -, -, G44, -, -, -, -, -, -, -, -⟩ := G'
  refine Go.aloadN X0 hx (pc' := 1) rfl (hb hby d5_0) rfl rfl ?_
  have fk1 : Fld Z h0 u5 "com/example/dirbound/dirbound/cli/ExitCode" "status" "I" (.int 7) := G44.ext O0.2
  refine Go.getF X0 hx hZ hown (host := "") (Or.inl (tw_35 hw)) Via.refl e0 fk1 (pc' := 4) rfl (hb hby d5_1) ?_
  intro T2 e2 X2
  refine Go.retI X2 hx hlk hret (hb hby d5_4) (by decide) (by decide) ?_
  rw [e2]
  exact ⟨rfl, (Fr.nil n0), rfl⟩
-- com/example/dirbound/dirbound/cli/ExitCodeOfPinLaw.statusOf
set_option maxRecDepth 65536 in
set_option maxHeartbeats 4000000 in
theorem au_36 (l : Launch) (Z : State) (a0 : Array Value) (hw : ∀ d ∈ tables_1, d.before a0 Z = true)  (h0 : Heap) (n0 : Nat) (Z0 : n0 ≤ h0.size) :
    Ctr l Z (⟨"com/example/dirbound/dirbound/cli/ExitCodeOfPinLaw", "statusOf", "(I)I"⟩ : MethodName) method_5_code 1 (some .int) ({ frames := 0, cells := 0, slots := 0, locals := 0 } : Room) #[(.int 5)] h0 (fun v h L => v = some (.int 7) ∧ Fr n0 L ∧ h = h0) := by
  refine Ctr.of (plainFor_of_name pn_c0) ?_
  intro p e s m below meth c T0 hx hZ hby hml hown hnm hret hlk e0 es X0
  refine Go.cast (ef_6_I m (5 : Int32)) ?_
  refine Go.iloadN X0 hx (pc' := 1) rfl (hb hby d6_0) rfl ?_
  refine Go.bipush X0 hx (pc' := 3) rfl (hb hby d6_1) (v := (6 : Int32)) (by decide) ?_
  refine Go.icmpNo X0 hx (pc' := 6) rfl (hb hby d6_3) (by decide) ?_
  refine Go.iloadN X0 hx (pc' := 7) rfl (hb hby d6_6) rfl ?_
  refine Go.iconst X0 hx (pc' := 8) rfl (hb hby d6_7) (v := (2 : Int32)) rfl ?_
  refine Go.iadd X0 hx (pc' := 9) rfl (hb hby d6_8) ?_
  rw [show ((5 : Int32) + (2 : Int32)) = (7 : Int32) from by decide]
  refine Go.retI X0 hx hlk hret (hb hby d6_9) (by decide) (by decide) ?_
  rw [e0]
  exact ⟨rfl, (Fr.nil n0), rfl⟩
theorem d1_53 : decode method_3_code 53 = .ok (.iload_n 0, 1) := by decide +kernel
theorem d1_54 : decode method_3_code 54 = .ok (.bipush 6, 2) := by decide +kernel
theorem d1_56 : decode method_3_code 56 = .ok (.if_icmp .ne 7, 3) := by decide +kernel
theorem d1_59 : decode method_3_code 59 = .ok (.getstatic 53, 3) := by decide +kernel
theorem d1_62 : decode method_3_code 62 = .ok (.areturn, 1) := by decide +kernel
-- com/example/dirbound/dirbound/cli/ExitCodeOfPinLaw.failureOf
set_option maxRecDepth 65536 in
set_option maxHeartbeats 4000000 in
theorem au_37 (l : Launch) (Z : State) (a0 : Array Value) (hw : ∀ d ∈ tables_1, d.before a0 Z = true) (f0 : Addr) (f1 : Addr) (f2 : Addr) (f3 : Addr) (f4 : Addr) (f5 : Addr) (f6 : Addr) (f7 : Addr) (f8 : Addr) (u0 : Addr) (u1 : Addr) (u2 : Addr) (u3 : Addr) (u4 : Addr) (u5 : Addr) (u6 : Addr) (u7 : Addr) (sw : Addr) (kk : ClassId) (h0 : Heap) (n0 : Nat) (Z0 : n0 ≤ h0.size) (O0 : Old Z n0 h0) (G : Glob Z f0 f1 f2 f3 f4 f5 f6 f7 f8 u0 u1 u2 u3 u4 u5 u6 u7 sw kk) :
    Ctr l Z (⟨"com/example/dirbound/dirbound/cli/ExitCodeOfPinLaw", "failureOf", "(I)Lcom/example/dirbound/dirbound/DirectoryException$Failure;"⟩ : MethodName) method_3_code 1 (some (.object "com/example/dirbound/dirbound/DirectoryException$Failure")) ({ frames := 0, cells := 0, slots := 0, locals := 0 } : Room) #[(.int 6)] h0 (fun v h L => v = some (.ref f6) ∧ Fr n0 L ∧ h = h0) := by
  refine Ctr.of (plainFor_of_name pn_c0) ?_
  intro p e s m below meth c T0 hx hZ hby hml hown hnm hret hlk e0 es X0
  refine Go.cast (ef_1_I m (6 : Int32)) ?_
  have G' := G
  obtain ⟨-, -, -, -, -, -, -, -, -, -, -, -, -, -, -, -, -, -, G18, -, -, -, -, -, -, -, -, -, -, -, -, -, -, -, -, -, -, -, -, -, -, -, -, -, -, -, -, -, -, -, -, -, -⟩ := G'
  refine Go.iloadN X0 hx (pc' := 1) rfl (hb hby d1_0) rfl ?_
  refine Go.ifYes X0 hx (pc' := 8) (hb hby d1_1) (by decide) (by decide) (by decide) ?_
  refine Go.iloadN X0 hx (pc' := 9) rfl (hb hby d1_8) rfl ?_
  refine Go.iconst X0 hx (pc' := 10) rfl (hb hby d1_9) (v := (1 : Int32)) rfl ?_
  refine Go.icmpYes X0 hx (pc' := 17) (hb hby d1_10) (by decide) (by decide) (by decide) ?_
  refine Go.iloadN X0 hx (pc' := 18) rfl (hb hby d1_17) rfl ?_
  refine Go.iconst X0 hx (pc' := 19) rfl (hb hby d1_18) (v := (2 : Int32)) rfl ?_
  refine Go.icmpYes X0 hx (pc' := 26) (hb hby d1_19) (by decide) (by decide) (by decide) ?_
  refine Go.iloadN X0 hx (pc' := 27) rfl (hb hby d1_26) rfl ?_
  refine Go.iconst X0 hx (pc' := 28) rfl (hb hby d1_27) (v := (3 : Int32)) rfl ?_
  refine Go.icmpYes X0 hx (pc' := 35) (hb hby d1_28) (by decide) (by decide) (by decide) ?_
  refine Go.iloadN X0 hx (pc' := 36) rfl (hb hby d1_35) rfl ?_
  refine Go.iconst X0 hx (pc' := 37) rfl (hb hby d1_36) (v := (4 : Int32)) rfl ?_
  refine Go.icmpYes X0 hx (pc' := 44) (hb hby d1_37) (by decide) (by decide) (by decide) ?_
  refine Go.iloadN X0 hx (pc' := 45) rfl (hb hby d1_44) rfl ?_
  refine Go.iconst X0 hx (pc' := 46) rfl (hb hby d1_45) (v := (5 : Int32)) rfl ?_
  refine Go.icmpYes X0 hx (pc' := 53) (hb hby d1_46) (by decide) (by decide) (by decide) ?_
  refine Go.iloadN X0 hx (pc' := 54) rfl (hb hby d1_53) rfl ?_
  refine Go.bipush X0 hx (pc' := 56) rfl (hb hby d1_54) (v := (6 : Int32)) (by decide) ?_
  refine Go.icmpNo X0 hx (pc' := 59) rfl (hb hby d1_56) (by decide) ?_
  have fk1 : Sta Z h0 "com/example/dirbound/dirbound/DirectoryException$Failure" "REFUSED" "Lcom/example/dirbound/dirbound/DirectoryException$Failure;" (.ref f6) := G18.ext O0.2
  refine Go.getS X0 hx hZ hown (host := "") (Or.inl (tw_67 hw)) Via.refl e0 fk1 (pc' := 62) rfl (hb hby d1_59) ?_
  intro T2 e2 X2
  refine Go.retR X2 hx hlk (t := (.object "com/example/dirbound/dirbound/DirectoryException$Failure")) hret rfl rfl (hb hby d1_62) (by decide) (by decide) ?_
  rw [e2]
  exact ⟨rfl, (Fr.nil n0), rfl⟩
-- java/lang/Enum.ordinal
set_option maxRecDepth 65536 in
set_option maxHeartbeats 4000000 in
theorem au_39 (l : Launch) (Z : State) (a0 : Array Value) (hw : ∀ d ∈ tables_1, d.before a0 Z = true) (f0 : Addr) (f1 : Addr) (f2 : Addr) (f3 : Addr) (f4 : Addr) (f5 : Addr) (f6 : Addr) (f7 : Addr) (f8 : Addr) (u0 : Addr) (u1 : Addr) (u2 : Addr) (u3 : Addr) (u4 : Addr) (u5 : Addr) (u6 : Addr) (u7 : Addr) (sw : Addr) (kk : ClassId) (h0 : Heap) (n0 : Nat) (Z0 : n0 ≤ h0.size) (O0 : Old Z n0 h0) (G : Glob Z f0 f1 f2 f3 f4 f5 f6 f7 f8 u0 u1 u2 u3 u4 u5 u6 u7 sw kk) :
    Ctr l Z (⟨"java/lang/Enum", "ordinal", "()I"⟩ : MethodName) jdk_37_method_2_code 1 (some .int) ({ frames := 0, cells := 0, slots := 0, locals := 0 } : Room) #[(.ref f6)] h0 (fun v h L => v = some (.int 6) ∧ Fr n0 L ∧ h = h0) := by
  refine Ctr.of (plainFor_of_name pn_c1) ?_
  intro p e s m below meth c T0 hx hZ hby hml hown hnm hret hlk e0 es X0
  refine Go.cast (ef_3_R m f6) ?_
  have G' := G
  obtain ⟨-, -, -, -, -, -, -, -, -, -, -, -, -, -, -, -, -, -, -, -, G20, -, -, -, -, -, -, -, -, -, -, -, -, -, -, -, -, -, -, -, -, -, -, -, -, -, -, -, -, -, -, -, -⟩ := G'
  refine Go.aloadN X0 hx (pc' := 1) rfl (hb hby d3_0) rfl rfl ?_
  have fk1 : Fld Z h0 f6 "java/lang/Enum" "ordinal" "I" (.int 6) := G20.ext O0.2
  refine Go.getF X0 hx hZ hown (host := "") (Or.inl (tw_22 hw)) Via.refl e0 fk1 (pc' := 4) rfl (hb hby d3_1) ?_
  intro T2 e2 X2
  refine Go.retI X2 hx hlk hret (hb hby d3_4) (by decide) (by decide) ?_
  rw [e2]
  exact ⟨rfl, (Fr.nil n0), rfl⟩
theorem d2_106 : decode prog_34_method_4_code 106 = .ok (.getstatic 28, 3) := by decide +kernel
theorem d2_109 : decode prog_34_method_4_code 109 = .ok (.goto 6, 3) := by decide +kernel
-- com/example/dirbound/dirbound/cli/ExitCode.of
set_option maxRecDepth 65536 in
set_option maxHeartbeats 4000000 in
theorem au_38 (l : Launch) (Z : State) (a0 : Array Value) (hw : ∀ d ∈ tables_1, d.before a0 Z = true) (f0 : Addr) (f1 : Addr) (f2 : Addr) (f3 : Addr) (f4 : Addr) (f5 : Addr) (f6 : Addr) (f7 : Addr) (f8 : Addr) (u0 : Addr) (u1 : Addr) (u2 : Addr) (u3 : Addr) (u4 : Addr) (u5 : Addr) (u6 : Addr) (u7 : Addr) (sw : Addr) (kk : ClassId) (h0 : Heap) (n0 : Nat) (Z0 : n0 ≤ h0.size) (O0 : Old Z n0 h0) (G : Glob Z f0 f1 f2 f3 f4 f5 f6 f7 f8 u0 u1 u2 u3 u4 u5 u6 u7 sw kk) :
    Ctr l Z (⟨"com/example/dirbound/dirbound/cli/ExitCode", "of", "(Lcom/example/dirbound/dirbound/DirectoryException$Failure;)Lcom/example/dirbound/dirbound/cli/ExitCode;"⟩ : MethodName) prog_34_method_4_code 1 (some (.object "com/example/dirbound/dirbound/cli/ExitCode")) ({ frames := 1, cells := 0, slots := 0, locals := 13 } : Room) #[(.ref f6)] h0 (fun v h L => v = some (.ref u6) ∧ Fr n0 L ∧ h = h0) := by
  refine Ctr.of (plainFor_of_name pn_c2) ?_
  intro p e s m below meth c T0 hx hZ hby hml hown hnm hret hlk e0 es X0
  refine Go.cast (ef_2_R m f6) ?_
  have G' := G
  obtain ⟨-, -, -, -, -, -, -, -, -, -, -, -, -, -, -, -, -, -, -, G19, -, -, -, -, -, -, -, -, -, -, -, -, -, -, -, -, -, -, -, -, -, -, -, -, -, G45, -, -, -, -, -, G51, G52⟩ := G'
  have fk1 : Sta Z h0 "com/example/dirbound/dirbound/cli/ExitCode$1" "$SwitchMap$com$example$dirbound$dirbound$DirectoryException$Failure" "[I" (.ref sw) := G51.ext O0.2
  refine Go.getS X0 hx hZ hown (host := "") (Or.inl (tw_12 hw)) Via.refl e0 fk1 (pc' := 3) rfl (hb hby d2_0) ?_
  intro T2 e2 X2
  refine Go.aloadN X2 hx (pc' := 4) rfl (hb hby d2_3) rfl rfl ?_
  have fk3 : Exa Z h0 f6 "com/example/dirbound/dirbound/DirectoryException$Failure" := G19.ext O0.2
  refine Go.callU X2 hx hZ hown (tw_15 hw) (tw_16 hw) (tw_17 hw) (tw_19 hw) (tw_18 hw) (by decide) (tw_21 hw) (tw_20 hw) (au_39 l Z a0 hw f0 f1 f2 f3 f4 f5 f6 f7 f8 u0 u1 u2 u3 u4 u5 u6 u7 sw kk h0 n0 Z0 O0 G) e2 fk3 (argsL := []) (rest := [(.ref sw)]) (pc' := 7) rfl (by rw [hml]; rfl) (lenOf pd_1 rfl) rfl rfl (W := 1) (Nat.le_of_eq rfl) (by decide) (by decide) (by decide) (by decide) (hb hby d2_4) ?_
  intro v4 T4 L4 q4 X4
  obtain ⟨rfl, N4, e4⟩ := q4
  show Go _ _ _ _ (T4.setTop (mkF m 7 #[.val (.ref f6)] [(.int 6), (.ref sw)]))
  have fk5 : Arv Z h0 sw kk .int (9 : Int32) [(.int 1), (.int 2), (.int 3), (.int 4), (.int 5), (.int 6), (.int 7), (.int 8), (.int 9)] (.int (0 : Int32)) := G52.ext O0.2
  refine Go.iaload X4 hx hZ e4 fk5 (v := (.int 7)) ⟨by decide, by decide⟩ rfl (pc' := 8) rfl (hb hby d2_7) ?_
  refine Go.tswIn X4 hx (pc' := 106) (hb hby d2_8) (by decide) (o := 98) (by decide) (by decide) (by decide) ?_
  have fk6 : Sta Z h0 "com/example/dirbound/dirbound/cli/ExitCode" "REFUSED" "Lcom/example/dirbound/dirbound/cli/ExitCode;" (.ref u6) := G45.ext O0.2
  refine Go.getS X4 hx hZ hown (host := "") (Or.inl (tw_69 hw)) Via.refl e4 fk6 (pc' := 109) rfl (hb hby d2_106) ?_
  intro T7 e7 X7
  refine Go.goto X7 hx (pc' := 115) (hb hby d2_109) (by decide) (by decide) ?_
  refine Go.retR X7 hx hlk (t := (.object "com/example/dirbound/dirbound/cli/ExitCode")) hret rfl rfl (hb hby d2_115) (by decide) (by decide) ?_
  rw [e7]
  exact ⟨rfl, (Fr.app (Fr.nil n0) N4), rfl⟩
theorem d4_53 : decode method_4_code 53 = .ok (.iload_n 0, 1) := by decide +kernel
theorem d4_54 : decode method_4_code 54 = .ok (.bipush 6, 2) := by decide +kernel
theorem d4_56 : decode method_4_code 56 = .ok (.if_icmp .ne 7, 3) := by decide +kernel
theorem d4_59 : decode method_4_code 59 = .ok (.getstatic 76, 3) := by decide +kernel
theorem d4_62 : decode method_4_code 62 = .ok (.areturn, 1) := by decide +kernel
-- com/example/dirbound/dirbound/cli/ExitCodeOfPinLaw.expectedOf
set_option maxRecDepth 65536 in
set_option maxHeartbeats 4000000 in
theorem au_40 (l : Launch) (Z : State) (a0 : Array Value) (hw : ∀ d ∈ tables_1, d.before a0 Z = true) (f0 : Addr) (f1 : Addr) (f2 : Addr) (f3 : Addr) (f4 : Addr) (f5 : Addr) (f6 : Addr) (f7 : Addr) (f8 : Addr) (u0 : Addr) (u1 : Addr) (u2 : Addr) (u3 : Addr) (u4 : Addr) (u5 : Addr) (u6 : Addr) (u7 : Addr) (sw : Addr) (kk : ClassId) (h0 : Heap) (n0 : Nat) (Z0 : n0 ≤ h0.size) (O0 : Old Z n0 h0) (G : Glob Z f0 f1 f2 f3 f4 f5 f6 f7 f8 u0 u1 u2 u3 u4 u5 u6 u7 sw kk) :
    Ctr l Z (⟨"com/example/dirbound/dirbound/cli/ExitCodeOfPinLaw", "expectedOf", "(I)Lcom/example/dirbound/dirbound/cli/ExitCode;"⟩ : MethodName) method_4_code 1 (some (.object "com/example/dirbound/dirbound/cli/ExitCode")) ({ frames := 0, cells := 0, slots := 0, locals := 0 } : Room) #[(.int 6)] h0 (fun v h L => v = some (.ref u6) ∧ Fr n0 L ∧ h = h0) := by
  refine Ctr.of (plainFor_of_name pn_c0) ?_
  intro p e s m below meth c T0 hx hZ hby hml hown hnm hret hlk e0 es X0
  refine Go.cast (ef_4_I m (6 : Int32)) ?_
  have G' := G
  obtain ⟨-, -, -, -, -, -, -, -, -, -, -, -, -, -, -, -, -, -, -, -, -, -, -, -, -, -, -, -, -, -, -, -, -, -, -, -, -, -, -, -, -, -, -, -, -, G45, -, -, -, -, -, -, -⟩ := G'
  refine Go.iloadN X0 hx (pc' := 1) rfl (hb hby d4_0) rfl ?_
  refine Go.ifYes X0 hx (pc' := 8) (hb hby d4_1) (by decide) (by decide) (by decide) ?_
  refine Go.iloadN X0 hx (pc' := 9) rfl (hb hby d4_8) rfl ?_
  refine Go.iconst X0 hx (pc' := 10) rfl (hb hby d4_9) (v := (1 : Int32)) rfl ?_
  refine Go.icmpYes X0 hx (pc' := 17) (hb hby d4_10) (by decide) (by decide) (by decide) ?_
  refine Go.iloadN X0 hx (pc' := 18) rfl (hb hby d4_17) rfl ?_
  refine Go.iconst X0 hx (pc' := 19) rfl (hb hby d4_18) (v := (2 : Int32)) rfl ?_
  refine Go.icmpYes X0 hx (pc' := 26) (hb hby d4_19) (by decide) (by decide) (by decide) ?_
  refine Go.iloadN X0 hx (pc' := 27) rfl (hb hby d4_26) rfl ?_
  refine Go.iconst X0 hx (pc' := 28) rfl (hb hby d4_27) (v := (3 : Int32)) rfl ?_
  refine Go.icmpYes X0 hx (pc' := 35) (hb hby d4_28) (by decide) (by decide) (by decide) ?_
  refine Go.iloadN X0 hx (pc' := 36) rfl (hb hby d4_35) rfl ?_
  refine Go.iconst X0 hx (pc' := 37) rfl (hb hby d4_36) (v := (4 : Int32)) rfl ?_
  refine Go.icmpYes X0 hx (pc' := 44) (hb hby d4_37) (by decide) (by decide) (by decide) ?_
  refine Go.iloadN X0 hx (pc' := 45) rfl (hb hby d4_44) rfl ?_
  refine Go.iconst X0 hx (pc' := 46) rfl (hb hby d4_45) (v := (5 : Int32)) rfl ?_
  refine Go.icmpYes X0 hx (pc' := 53) (hb hby d4_46) (by decide) (by decide) (by decide) ?_
  refine Go.iloadN X0 hx (pc' := 54) rfl (hb hby d4_53) rfl ?_
  refine Go.bipush X0 hx (pc' := 56) rfl (hb hby d4_54) (v := (6 : Int32)) (by decide) ?_
  refine Go.icmpNo X0 hx (pc' := 59) rfl (hb hby d4_56) (by decide) ?_
  have fk1 : Sta Z h0 "com/example/dirbound/dirbound/cli/ExitCode" "REFUSED" "Lcom/example/dirbound/dirbound/cli/ExitCode;" (.ref u6) := G45.ext O0.2
  refine Go.getS X0 hx hZ hown (host := "") (Or.inl (tw_71 hw)) Via.refl e0 fk1 (pc' := 62) rfl (hb hby d4_59) ?_
  intro T2 e2 X2
  refine Go.retR X2 hx hlk (t := (.object "com/example/dirbound/dirbound/cli/ExitCode")) hret rfl rfl (hb hby d4_62) (by decide) (by decide) ?_
  rw [e2]
  exact ⟨rfl, (Fr.nil n0), rfl⟩
-- com/example/dirbound/dirbound/cli/ExitCode.status
set_option maxRecDepth 65536 in
set_option maxHeartbeats 4000000 in
theorem au_41 (l : Launch) (Z : State) (a0 : Array Value) (hw : ∀ d ∈ tables_1, d.before a0 Z = true) (f0 : Addr) (f1 : Addr) (f2 : Addr) (f3 : Addr) (f4 : Addr) (f5 : Addr) (f6 : Addr) (f7 : Addr) (f8 : Addr) (u0 : Addr) (u1 : Addr) (u2 : Addr) (u3 : Addr) (u4 : Addr) (u5 : Addr) (u6 : Addr) (u7 : Addr) (sw : Addr) (kk : ClassId) (h0 : Heap) (n0 : Nat) (Z0 : n0 ≤ h0.size) (O0 : Old Z n0 h0) (G : Glob Z f0 f1 f2 f3 f4 f5 f6 f7 f8 u0 u1 u2 u3 u4 u5 u6 u7 sw kk) :
    Ctr l Z (⟨"com/example/dirbound/dirbound/cli/ExitCode", "status", "()I"⟩ : MethodName) prog_34_method_5_code 1 (some .int) ({ frames := 0, cells := 0, slots := 0, locals := 0 } : Room) #[(.ref u6)] h0 (fun v h L => v = some (.int 8) ∧ Fr n0 L ∧ h = h0) := by
  refine Ctr.of (plainFor_of_name pn_c2) ?_
  intro p e s m below meth c T0 hx hZ hby hml hown hnm hret hlk e0 es X0
  refine Go.cast (ef_5_R m u6) ?_
  have G' := G
  obtain ⟨-, -, -, -, -, -, -, -, -, -, -, -, -, -, -, -, -, -, -, -, -, -, -, -, -, -, -, -, -, -, -, -, -, -, -, -, -, -, -, -, -, -, -, -, -, -, -, G47, -, -, -, -, -⟩ := G'
  refine Go.aloadN X0 hx (pc' := 1) rfl (hb hby d5_0) rfl rfl ?_
  have fk1 : Fld Z h0 u6 "com/example/dirbound/dirbound/cli/ExitCode" "status" "I" (.int 8) := G47.ext O0.2
  refine Go.getF X0 hx hZ hown (host := "") (Or.inl (tw_35 hw)) Via.refl e0 fk1 (pc' := 4) rfl (hb hby d5_1) ?_
  intro T2 e2 X2
  refine Go.retI X2 hx hlk hret (hb hby d5_4) (by decide) (by decide) ?_
  rw [e2]
  exact ⟨rfl, (Fr.nil n0), rfl⟩
-- com/example/dirbound/dirbound/cli/ExitCodeOfPinLaw.statusOf
set_option maxRecDepth 65536 in
set_option maxHeartbeats 4000000 in
theorem au_42 (l : Launch) (Z : State) (a0 : Array Value) (hw : ∀ d ∈ tables_1, d.before a0 Z = true)  (h0 : Heap) (n0 : Nat) (Z0 : n0 ≤ h0.size) :
    Ctr l Z (⟨"com/example/dirbound/dirbound/cli/ExitCodeOfPinLaw", "statusOf", "(I)I"⟩ : MethodName) method_5_code 1 (some .int) ({ frames := 0, cells := 0, slots := 0, locals := 0 } : Room) #[(.int 6)] h0 (fun v h L => v = some (.int 8) ∧ Fr n0 L ∧ h = h0) := by
  refine Ctr.of (plainFor_of_name pn_c0) ?_
  intro p e s m below meth c T0 hx hZ hby hml hown hnm hret hlk e0 es X0
  refine Go.cast (ef_6_I m (6 : Int32)) ?_
  refine Go.iloadN X0 hx (pc' := 1) rfl (hb hby d6_0) rfl ?_
  refine Go.bipush X0 hx (pc' := 3) rfl (hb hby d6_1) (v := (6 : Int32)) (by decide) ?_
  refine Go.icmpNo X0 hx (pc' := 6) rfl (hb hby d6_3) (by decide) ?_
  refine Go.iloadN X0 hx (pc' := 7) rfl (hb hby d6_6) rfl ?_
  refine Go.iconst X0 hx (pc' := 8) rfl (hb hby d6_7) (v := (2 : Int32)) rfl ?_
  refine Go.iadd X0 hx (pc' := 9) rfl (hb hby d6_8) ?_
  rw [show ((6 : Int32) + (2 : Int32)) = (8 : Int32) from by decide]
  refine Go.retI X0 hx hlk hret (hb hby d6_9) (by decide) (by decide) ?_
  rw [e0]
  exact ⟨rfl, (Fr.nil n0), rfl⟩
theorem d1_63 : decode method_3_code 63 = .ok (.iload_n 0, 1) := by decide +kernel
theorem d1_64 : decode method_3_code 64 = .ok (.bipush 7, 2) := by decide +kernel
theorem d1_66 : decode method_3_code 66 = .ok (.if_icmp .ne 7, 3) := by decide +kernel
theorem d1_69 : decode method_3_code 69 = .ok (.getstatic 56, 3) := by decide +kernel
theorem d1_72 : decode method_3_code 72 = .ok (.areturn, 1) := by decide +kernel
-- com/example/dirbound/dirbound/cli/ExitCodeOfPinLaw.failureOf
set_option maxRecDepth 65536 in
set_option maxHeartbeats 4000000 in
theorem au_43 (l : Launch) (Z : State) (a0 : Array Value) (hw : ∀ d ∈ tables_1, d.before a0 Z = true) (f0 : Addr) (f1 : Addr) (f2 : Addr) (f3 : Addr) (f4 : Addr) (f5 : Addr) (f6 : Addr) (f7 : Addr) (f8 : Addr) (u0 : Addr) (u1 : Addr) (u2 : Addr) (u3 : Addr) (u4 : Addr) (u5 : Addr) (u6 : Addr) (u7 : Addr) (sw : Addr) (kk : ClassId) (h0 : Heap) (n0 : Nat) (Z0 : n0 ≤ h0.size) (O0 : Old Z n0 h0) (G : Glob Z f0 f1 f2 f3 f4 f5 f6 f7 f8 u0 u1 u2 u3 u4 u5 u6 u7 sw kk) :
    Ctr l Z (⟨"com/example/dirbound/dirbound/cli/ExitCodeOfPinLaw", "failureOf", "(I)Lcom/example/dirbound/dirbound/DirectoryException$Failure;"⟩ : MethodName) method_3_code 1 (some (.object "com/example/dirbound/dirbound/DirectoryException$Failure")) ({ frames := 0, cells := 0, slots := 0, locals := 0 } : Room) #[(.int 7)] h0 (fun v h L => v = some (.ref f7) ∧ Fr n0 L ∧ h = h0) := by
  refine Ctr.of (plainFor_of_name pn_c0) ?_
  intro p e s m below meth c T0 hx hZ hby hml hown hnm hret hlk e0 es X0
  refine Go.cast (ef_1_I m (7 : Int32)) ?_
  have G' := G
  obtain ⟨-, -, -, -, -, -, -, -, -, -, -, -, -, -, -, -, -, -, -, -, -, G21, -, -, -, -, -, -, -, -, -, -, -, -, -, -, -, -, -, -, -, -, -, -, -, -, -, -, -, -, -, -, -⟩ := G'
  refine Go.iloadN X0 hx (pc' := 1) rfl (hb hby d1_0) rfl ?_
  refine Go.ifYes X0 hx (pc' := 8) (hb hby d1_1) (by decide) (by decide) (by decide) ?_
  refine Go.iloadN X0 hx (pc' := 9) rfl (hb hby d1_8) rfl ?_
  refine Go.iconst X0 hx (pc' := 10) rfl (hb hby d1_9) (v := (1 : Int32)) rfl ?_
  refine Go.icmpYes X0 hx (pc' := 17) (hb hby d1_10) (by decide) (by decide) (by decide) ?_
  refine Go.iloadN X0 hx (pc' := 18) rfl (hb hby d1_17) rfl ?_
  refine Go.iconst X0 hx (pc' := 19) rfl (hb hby d1_18) (v := (2 : Int32)) rfl ?_
  refine Go.icmpYes X0 hx (pc' := 26) (hb hby d1_19) (by decide) (by decide) (by decide) ?_
  refine Go.iloadN X0 hx (pc' := 27) rfl (hb hby d1_26) rfl ?_
  refine Go.iconst X0 hx (pc' := 28) rfl (hb hby d1_27) (v := (3 : Int32)) rfl ?_
  refine Go.icmpYes X0 hx (pc' := 35) (hb hby d1_28) (by decide) (by decide) (by decide) ?_
  refine Go.iloadN X0 hx (pc' := 36) rfl (hb hby d1_35) rfl ?_
  refine Go.iconst X0 hx (pc' := 37) rfl (hb hby d1_36) (v := (4 : Int32)) rfl ?_
  refine Go.icmpYes X0 hx (pc' := 44) (hb hby d1_37) (by decide) (by decide) (by decide) ?_
  refine Go.iloadN X0 hx (pc' := 45) rfl (hb hby d1_44) rfl ?_
  refine Go.iconst X0 hx (pc' := 46) rfl (hb hby d1_45) (v := (5 : Int32)) rfl ?_
  refine Go.icmpYes X0 hx (pc' := 53) (hb hby d1_46) (by decide) (by decide) (by decide) ?_
  refine Go.iloadN X0 hx (pc' := 54) rfl (hb hby d1_53) rfl ?_
  refine Go.bipush X0 hx (pc' := 56) rfl (hb hby d1_54) (v := (6 : Int32)) (by decide) ?_
  refine Go.icmpYes X0 hx (pc' := 63) (hb hby d1_56) (by decide) (by decide) (by decide) ?_
  refine Go.iloadN X0 hx (pc' := 64) rfl (hb hby d1_63) rfl ?_
  refine Go.bipush X0 hx (pc' := 66) rfl (hb hby d1_64) (v := (7 : Int32)) (by decide) ?_
  refine Go.icmpNo X0 hx (pc' := 69) rfl (hb hby d1_66) (by decide) ?_
  have fk1 : Sta Z h0 "com/example/dirbound/dirbound/DirectoryException$Failure" "FACTORY" "Lcom/example/dirbound/dirbound/DirectoryException$Failure;" (.ref f7) := G21.ext O0.2
  refine Go.getS X0 hx hZ hown (host := "") (Or.inl (tw_55 hw)) Via.refl e0 fk1 (pc' := 72) rfl (hb hby d1_69) ?_
  intro T2 e2 X2
  refine Go.retR X2 hx hlk (t := (.object "com/example/dirbound/dirbound/DirectoryException$Failure")) hret rfl rfl (hb hby d1_72) (by decide) (by decide) ?_
  rw [e2]
  exact ⟨rfl, (Fr.nil n0), rfl⟩
-- java/lang/Enum.ordinal
set_option maxRecDepth 65536 in
set_option maxHeartbeats 4000000 in
theorem au_45 (l : Launch) (Z : State) (a0 : Array Value) (hw : ∀ d ∈ tables_1, d.before a0 Z = true) (f0 : Addr) (f1 : Addr) (f2 : Addr) (f3 : Addr) (f4 : Addr) (f5 : Addr) (f6 : Addr) (f7 : Addr) (f8 : Addr) (u0 : Addr) (u1 : Addr) (u2 : Addr) (u3 : Addr) (u4 : Addr) (u5 : Addr) (u6 : Addr) (u7 : Addr) (sw : Addr) (kk : ClassId) (h0 : Heap) (n0 : Nat) (Z0 : n0 ≤ h0.size) (O0 : Old Z n0 h0) (G : Glob Z f0 f1 f2 f3 f4 f5 f6 f7 f8 u0 u1 u2 u3 u4 u5 u6 u7 sw kk) :
    Ctr l Z (⟨"java/lang/Enum", "ordinal", "()I"⟩ : MethodName) jdk_37_method_2_code 1 (some .int) ({ frames := 0, cells := 0, slots := 0, locals := 0 } : Room) #[(.ref f7)] h0 (fun v h L => v = some (.int 7) ∧ Fr n0 L ∧ h = h0) := by
  refine Ctr.of (plainFor_of_name pn_c1) ?_
  intro p e s m below meth c T0 hx hZ hby hml hown hnm hret hlk e0 es X0
  refine Go.cast (ef_3_R m f7) ?_
  have G' := G
  obtain ⟨-, -, -, -, -, -, -, -, -, -, -, -, -, -, -, -, -, -, -, -, -, -, -, G23, -, -, -, -, -, -, -, -, -, -, -, -, -, -, -, -, -, -, -, -, -, -, -, -, -, -, -, -, -⟩ := G'
  refine Go.aloadN X0 hx (pc' := 1) rfl (hb hby d3_0) rfl rfl ?_
  have fk1 : Fld Z h0 f7 "java/lang/Enum" "ordinal" "I" (.int 7) := G23.ext O0.2
  refine Go.getF X0 hx hZ hown (host := "") (Or.inl (tw_22 hw)) Via.refl e0 fk1 (pc' := 4) rfl (hb hby d3_1) ?_
  intro T2 e2 X2
  refine Go.retI X2 hx hlk hret (hb hby d3_4) (by decide) (by decide) ?_
  rw [e2]
  exact ⟨rfl, (Fr.nil n0), rfl⟩
theorem d2_112 : decode prog_34_method_4_code 112 = .ok (.getstatic 7, 3) := by decide +kernel
-- com/example/dirbound/dirbound/cli/ExitCode.of
set_option maxRecDepth 65536 in
set_option maxHeartbeats 4000000 in
theorem au_44 (l : Launch) (Z : State) (a0 : Array Value) (hw : ∀ d ∈ tables_1, d.before a0 Z = true) (f0 : Addr) (f1 : Addr) (f2 : Addr) (f3 : Addr) (f4 : Addr) (f5 : Addr) (f6 : Addr) (f7 : Addr) (f8 : Addr) (u0 : Addr) (u1 : Addr) (u2 : Addr) (u3 : Addr) (u4 : Addr) (u5 : Addr) (u6 : Addr) (u7 : Addr) (sw : Addr) (kk : ClassId) (h0 : Heap) (n0 : Nat) (Z0 : n0 ≤ h0.size) (O0 : Old Z n0 h0) (G : Glob Z f0 f1 f2 f3 f4 f5 f6 f7 f8 u0 u1 u2 u3 u4 u5 u6 u7 sw kk) :
    Ctr l Z (⟨"com/example/dirbound/dirbound/cli/ExitCode", "of", "(Lcom/example/dirbound/dirbound/DirectoryException$Failure;)Lcom/example/dirbound/dirbound/cli/ExitCode;"⟩ : MethodName) prog_34_method_4_code 1 (some (.object "com/example/dirbound/dirbound/cli/ExitCode")) ({ frames := 1, cells := 0, slots := 0, locals := 13 } : Room) #[(.ref f7)] h0 (fun v h L => v = some (.ref u7) ∧ Fr n0 L ∧ h = h0) := by
  refine Ctr.of (plainFor_of_name pn_c2) ?_
  intro p e s m below meth c T0 hx hZ hby hml hown hnm hret hlk e0 es X0
  refine Go.cast (ef_2_R m f7) ?_
  have G' := G
  obtain ⟨-, -, -, -, -, -, -, -, -, -, -, -, -, -, -, -, -, -, -, -, -, -, G22, -, -, -, -, -, -, -, -, -, -, -, -, -, -, -, -, -, -, -, -, -, -, -, -, -, G48, -, -, G51, G52⟩ := G'
  have fk1 : Sta Z h0 "com/example/dirbound/dirbound/cli/ExitCode$1" "$SwitchMap$com$example$dirbound$dirbound$DirectoryException$Failure" "[I" (.ref sw) := G51.ext O0.2
  refine Go.getS X0 hx hZ hown (host := "") (Or.inl (tw_12 hw)) Via.refl e0 fk1 (pc' := 3) rfl (hb hby d2_0) ?_
  intro T2 e2 X2
  refine Go.aloadN X2 hx (pc' := 4) rfl (hb hby d2_3) rfl rfl ?_
  have fk3 : Exa Z h0 f7 "com/example/dirbound/dirbound/DirectoryException$Failure" := G22.ext O0.2
  refine Go.callU X2 hx hZ hown (tw_15 hw) (tw_16 hw) (tw_17 hw) (tw_19 hw) (tw_18 hw) (by decide) (tw_21 hw) (tw_20 hw) (au_45 l Z a0 hw f0 f1 f2 f3 f4 f5 f6 f7 f8 u0 u1 u2 u3 u4 u5 u6 u7 sw kk h0 n0 Z0 O0 G) e2 fk3 (argsL := []) (rest := [(.ref sw)]) (pc' := 7) rfl (by rw [hml]; rfl) (lenOf pd_1 rfl) rfl rfl (W := 1) (Nat.le_of_eq rfl) (by decide) (by decide) (by decide) (by decide) (hb hby d2_4) ?_
  intro v4 T4 L4 q4 X4
  obtain ⟨rfl, N4, e4⟩ := q4
  show Go _ _ _ _ (T4.setTop (mkF m 7 #[.val (.ref f7)] [(.int 7), (.ref sw)]))
  have fk5 : Arv Z h0 sw kk .int (9 : Int32) [(.int 1), (.int 2), (.int 3), (.int 4), (.int 5), (.int 6), (.int 7), (.int 8), (.int 9)] (.int (0 : Int32)) := G52.ext O0.2
  refine Go.iaload X4 hx hZ e4 fk5 (v := (.int 8)) ⟨by decide, by decide⟩ rfl (pc' := 8) rfl (hb hby d2_7) ?_
  refine Go.tswIn X4 hx (pc' := 112) (hb hby d2_8) (by decide) (o := 104) (by decide) (by decide) (by decide) ?_
  have fk6 : Sta Z h0 "com/example/dirbound/dirbound/cli/ExitCode" "FAILURE" "Lcom/example/dirbound/dirbound/cli/ExitCode;" (.ref u7) := G48.ext O0.2
  refine Go.getS X4 hx hZ hown (host := "") (Or.inl (tw_57 hw)) Via.refl e4 fk6 (pc' := 115) rfl (hb hby d2_112) ?_
  intro T7 e7 X7
  refine Go.retR X7 hx hlk (t := (.object "com/example/dirbound/dirbound/cli/ExitCode")) hret rfl rfl (hb hby d2_115) (by decide) (by decide) ?_
  rw [e7]
  exact ⟨rfl, (Fr.app (Fr.nil n0) N4), rfl⟩
theorem d4_63 : decode method_4_code 63 = .ok (.getstatic 78, 3) := by decide +kernel
theorem d4_66 : decode method_4_code 66 = .ok (.areturn, 1) := by decide +kernel
-- com/example/dirbound/dirbound/cli/ExitCodeOfPinLaw.expectedOf
set_option maxRecDepth 65536 in
set_option maxHeartbeats 4000000 in
theorem au_46 (l : Launch) (Z : State) (a0 : Array Value) (hw : ∀ d ∈ tables_1, d.before a0 Z = true) (f0 : Addr) (f1 : Addr) (f2 : Addr) (f3 : Addr) (f4 : Addr) (f5 : Addr) (f6 : Addr) (f7 : Addr) (f8 : Addr) (u0 : Addr) (u1 : Addr) (u2 : Addr) (u3 : Addr) (u4 : Addr) (u5 : Addr) (u6 : Addr) (u7 : Addr) (sw : Addr) (kk : ClassId) (h0 : Heap) (n0 : Nat) (Z0 : n0 ≤ h0.size) (O0 : Old Z n0 h0) (G : Glob Z f0 f1 f2 f3 f4 f5 f6 f7 f8 u0 u1 u2 u3 u4 u5 u6 u7 sw kk) :
    Ctr l Z (⟨"com/example/dirbound/dirbound/cli/ExitCodeOfPinLaw", "expectedOf", "(I)Lcom/example/dirbound/dirbound/cli/ExitCode;"⟩ : MethodName) method_4_code 1 (some (.object "com/example/dirbound/dirbound/cli/ExitCode")) ({ frames := 0, cells := 0, slots := 0, locals := 0 } : Room) #[(.int 7)] h0 (fun v h L => v = some (.ref u7) ∧ Fr n0 L ∧ h = h0) := by
  refine Ctr.of (plainFor_of_name pn_c0) ?_
  intro p e s m below meth c T0 hx hZ hby hml hown hnm hret hlk e0 es X0
  refine Go.cast (ef_4_I m (7 : Int32)) ?_
  have G' := G
  obtain ⟨-, -, -, -, -, -, -, -, -, -, -, -, -, -, -, -, -, -, -, -, -, -, -, -, -, -, -, -, -, -, -, -, -, -, -, -, -, -, -, -, -, -, -, -, -, -, -, -, G48, -, -, -, -⟩ := G'
  refine Go.iloadN X0 hx (pc' := 1) rfl (hb hby d4_0) rfl ?_
  refine Go.ifYes X0 hx (pc' := 8) (hb hby d4_1) (by decide) (by decide) (by decide) ?_
  refine Go.iloadN X0 hx (pc' := 9) rfl (hb hby d4_8) rfl ?_
  refine Go.iconst X0 hx (pc' := 10) rfl (hb hby d4_9) (v := (1 : Int32)) rfl ?_
  refine Go.icmpYes X0 hx (pc' := 17) (hb hby d4_10) (by decide) (by decide) (by decide) ?_
  refine Go.iloadN X0 hx (pc' := 18) rfl (hb hby d4_17) rfl ?_
  refine Go.iconst X0 hx (pc' := 19) rfl (hb hby d4_18) (v := (2 : Int32)) rfl ?_
  refine Go.icmpYes X0 hx (pc' := 26) (hb hby d4_19) (by decide) (by decide) (by decide) ?_
  refine Go.iloadN X0 hx (pc' := 27) rfl (hb hby d4_26) rfl ?_
  refine Go.iconst X0 hx (pc' := 28) rfl (hb hby d4_27) (v := (3 : Int32)) rfl ?_
  refine Go.icmpYes X0 hx (pc' := 35) (hb hby d4_28) (by decide) (by decide) (by decide) ?_
  refine Go.iloadN X0 hx (pc' := 36) rfl (hb hby d4_35) rfl ?_
  refine Go.iconst X0 hx (pc' := 37) rfl (hb hby d4_36) (v := (4 : Int32)) rfl ?_
  refine Go.icmpYes X0 hx (pc' := 44) (hb hby d4_37) (by decide) (by decide) (by decide) ?_
  refine Go.iloadN X0 hx (pc' := 45) rfl (hb hby d4_44) rfl ?_
  refine Go.iconst X0 hx (pc' := 46) rfl (hb hby d4_45) (v := (5 : Int32)) rfl ?_
  refine Go.icmpYes X0 hx (pc' := 53) (hb hby d4_46) (by decide) (by decide) (by decide) ?_
  refine Go.iloadN X0 hx (pc' := 54) rfl (hb hby d4_53) rfl ?_
  refine Go.bipush X0 hx (pc' := 56) rfl (hb hby d4_54) (v := (6 : Int32)) (by decide) ?_
  refine Go.icmpYes X0 hx (pc' := 63) (hb hby d4_56) (by decide) (by decide) (by decide) ?_
  have fk1 : Sta Z h0 "com/example/dirbound/dirbound/cli/ExitCode" "FAILURE" "Lcom/example/dirbound/dirbound/cli/ExitCode;" (.ref u7) := G48.ext O0.2
  refine Go.getS X0 hx hZ hown (host := "") (Or.inl (tw_59 hw)) Via.refl e0 fk1 (pc' := 66) rfl (hb hby d4_63) ?_
  intro T2 e2 X2
  refine Go.retR X2 hx hlk (t := (.object "com/example/dirbound/dirbound/cli/ExitCode")) hret rfl rfl (hb hby d4_66) (by decide) (by decide) ?_
  rw [e2]
  exact ⟨rfl, (Fr.nil n0), rfl⟩
-- com/example/dirbound/dirbound/cli/ExitCode.status
set_option maxRecDepth 65536 in
set_option maxHeartbeats 4000000 in
theorem au_47 (l : Launch) (Z : State) (a0 : Array Value) (hw : ∀ d ∈ tables_1, d.before a0 Z = true) (f0 : Addr) (f1 : Addr) (f2 : Addr) (f3 : Addr) (f4 : Addr) (f5 : Addr) (f6 : Addr) (f7 : Addr) (f8 : Addr) (u0 : Addr) (u1 : Addr) (u2 : Addr) (u3 : Addr) (u4 : Addr) (u5 : Addr) (u6 : Addr) (u7 : Addr) (sw : Addr) (kk : ClassId) (h0 : Heap) (n0 : Nat) (Z0 : n0 ≤ h0.size) (O0 : Old Z n0 h0) (G : Glob Z f0 f1 f2 f3 f4 f5 f6 f7 f8 u0 u1 u2 u3 u4 u5 u6 u7 sw kk) :
    Ctr l Z (⟨"com/example/dirbound/dirbound/cli/ExitCode", "status", "()I"⟩ : MethodName) prog_34_method_5_code 1 (some .int) ({ frames := 0, cells := 0, slots := 0, locals := 0 } : Room) #[(.ref u7)] h0 (fun v h L => v = some (.int 1) ∧ Fr n0 L ∧ h = h0) := by
  refine Ctr.of (plainFor_of_name pn_c2) ?_
  intro p e s m below meth c T0 hx hZ hby hml hown hnm hret hlk e0 es X0
  refine Go.cast (ef_5_R m u7) ?_
  have G' := G
  obtain ⟨-, -, -, -, -, -, -, -, -, -, -, -, -, -, -, -, -, -, -, -, -, -, -, -, -, -, -, -, -, -, -, -, -, -, -, -, -, -, -, -, -, -, -, -, -, -, -, -, -, -, G50, -, -⟩ := G'
  refine Go.aloadN X0 hx (pc' := 1) rfl (hb hby d5_0) rfl rfl ?_
  have fk1 : Fld Z h0 u7 "com/example/dirbound/dirbound/cli/ExitCode" "status" "I" (.int 1) := G50.ext O0.2
  refine Go.getF X0 hx hZ hown (host := "") (Or.inl (tw_35 hw)) Via.refl e0 fk1 (pc' := 4) rfl (hb hby d5_1) ?_
  intro T2 e2 X2
  refine Go.retI X2 hx hlk hret (hb hby d5_4) (by decide) (by decide) ?_
  rw [e2]
  exact ⟨rfl, (Fr.nil n0), rfl⟩
theorem d6_10 : decode method_5_code 10 = .ok (.iconst 1, 1) := by decide +kernel
theorem d6_11 : decode method_5_code 11 = .ok (.ireturn, 1) := by decide +kernel
-- com/example/dirbound/dirbound/cli/ExitCodeOfPinLaw.statusOf
set_option maxRecDepth 65536 in
set_option maxHeartbeats 4000000 in
theorem au_48 (l : Launch) (Z : State) (a0 : Array Value) (hw : ∀ d ∈ tables_1, d.before a0 Z = true)  (h0 : Heap) (n0 : Nat) (Z0 : n0 ≤ h0.size) :
    Ctr l Z (⟨"com/example/dirbound/dirbound/cli/ExitCodeOfPinLaw", "statusOf", "(I)I"⟩ : MethodName) method_5_code 1 (some .int) ({ frames := 0, cells := 0, slots := 0, locals := 0 } : Room) #[(.int 7)] h0 (fun v h L => v = some (.int 1) ∧ Fr n0 L ∧ h = h0) := by
  refine Ctr.of (plainFor_of_name pn_c0) ?_
  intro p e s m below meth c T0 hx hZ hby hml hown hnm hret hlk e0 es X0
  refine Go.cast (ef_6_I m (7 : Int32)) ?_
  refine Go.iloadN X0 hx (pc' := 1) rfl (hb hby d6_0) rfl ?_
  refine Go.bipush X0 hx (pc' := 3) rfl (hb hby d6_1) (v := (6 : Int32)) (by decide) ?_
  refine Go.icmpYes X0 hx (pc' := 10) (hb hby d6_3) (by decide) (by decide) (by decide) ?_
  refine Go.iconst X0 hx (pc' := 11) rfl (hb hby d6_10) (v := (1 : Int32)) rfl ?_
  refine Go.retI X0 hx hlk hret (hb hby d6_11) (by decide) (by decide) ?_
  rw [e0]
  exact ⟨rfl, (Fr.nil n0), rfl⟩
theorem d1_73 : decode method_3_code 73 = .ok (.getstatic 59, 3) := by decide +kernel
theorem d1_76 : decode method_3_code 76 = .ok (.areturn, 1) := by decide +kernel
-- com/example/dirbound/dirbound/cli/ExitCodeOfPinLaw.failureOf
set_option maxRecDepth 65536 in
set_option maxHeartbeats 4000000 in
theorem au_49 (l : Launch) (Z : State) (a0 : Array Value) (hw : ∀ d ∈ tables_1, d.before a0 Z = true) (f0 : Addr) (f1 : Addr) (f2 : Addr) (f3 : Addr) (f4 : Addr) (f5 : Addr) (f6 : Addr) (f7 : Addr) (f8 : Addr) (u0 : Addr) (u1 : Addr) (u2 : Addr) (u3 : Addr) (u4 : Addr) (u5 : Addr) (u6 : Addr) (u7 : Addr) (sw : Addr) (kk : ClassId) (h0 : Heap) (n0 : Nat) (Z0 : n0 ≤ h0.size) (O0 : Old Z n0 h0) (G : Glob Z f0 f1 f2 f3 f4 f5 f6 f7 f8 u0 u1 u2 u3 u4 u5 u6 u7 sw kk) :
    Ctr l Z (⟨"com/example/dirbound/dirbound/cli/ExitCodeOfPinLaw", "failureOf", "(I)Lcom/example/dirbound/dirbound/DirectoryException$Failure;"⟩ : MethodName) method_3_code 1 (some (.object "com/example/dirbound/dirbound/DirectoryException$Failure")) ({ frames := 0, cells := 0, slots := 0, locals := 0 } : Room) #[(.int 8)] h0 (fun v h L => v = some (.ref f8) ∧ Fr n0 L ∧ h = h0) := by
  refine Ctr.of (plainFor_of_name pn_c0) ?_
  intro p e s m below meth c T0 hx hZ hby hml hown hnm hret hlk e0 es X0
  refine Go.cast (ef_1_I m (8 : Int32)) ?_
  have G' := G
  obtain ⟨-, -, -, -, -, -, -, -, -, -, -, -, -, -, -, -, -, -, -, -, -, -, -, -, G24, -, -, -, -, -, -, -, -, -, -, -, -, -, -, -, -, -, -, -, -, -, -, -, -, -, -, -, -⟩ := G'
  refine Go.iloadN X0 hx (pc' := 1) rfl (hb hby d1_0) rfl ?_
  refine Go.ifYes X0 hx (pc' := 8) (hb hby d1_1) (by decide) (by decide) (by decide) ?_
  refine Go.iloadN X0 hx (pc' := 9) rfl (hb hby d1_8) rfl ?_
  refine Go.iconst X0 hx (pc' := 10) rfl (hb hby d1_9) (v := (1 : Int32)) rfl ?_
  refine Go.icmpYes X0 hx (pc' := 17) (hb hby d1_10) (by decide) (by decide) (by decide) ?_
  refine Go.iloadN X0 hx (pc' := 18) rfl (hb hby d1_17) rfl ?_
  refine Go.iconst X0 hx (pc' := 19) rfl (hb hby d1_18) (v := (2 : Int32)) rfl ?_
  refine Go.icmpYes X0 hx (pc' := 26) (hb hby d1_19) (by decide) (by decide) (by decide) ?_
  refine Go.iloadN X0 hx (pc' := 27) rfl (hb hby d1_26) rfl ?_
  refine Go.iconst X0 hx (pc' := 28) rfl (hb hby d1_27) (v := (3 : Int32)) rfl ?_
  refine Go.icmpYes X0 hx (pc' := 35) (hb hby d1_28) (by decide) (by decide) (by decide) ?_
  refine Go.iloadN X0 hx (pc' := 36) rfl (hb hby d1_35) rfl ?_
  refine Go.iconst X0 hx (pc' := 37) rfl (hb hby d1_36) (v := (4 : Int32)) rfl ?_
  refine Go.icmpYes X0 hx (pc' := 44) (hb hby d1_37) (by decide) (by decide) (by decide) ?_
  refine Go.iloadN X0 hx (pc' := 45) rfl (hb hby d1_44) rfl ?_
  refine Go.iconst X0 hx (pc' := 46) rfl (hb hby d1_45) (v := (5 : Int32)) rfl ?_
  refine Go.icmpYes X0 hx (pc' := 53) (hb hby d1_46) (by decide) (by decide) (by decide) ?_
  refine Go.iloadN X0 hx (pc' := 54) rfl (hb hby d1_53) rfl ?_
  refine Go.bipush X0 hx (pc' := 56) rfl (hb hby d1_54) (v := (6 : Int32)) (by decide) ?_
  refine Go.icmpYes X0 hx (pc' := 63) (hb hby d1_56) (by decide) (by decide) (by decide) ?_
  refine Go.iloadN X0 hx (pc' := 64) rfl (hb hby d1_63) rfl ?_
  refine Go.bipush X0 hx (pc' := 66) rfl (hb hby d1_64) (v := (7 : Int32)) (by decide) ?_
  refine Go.icmpYes X0 hx (pc' := 73) (hb hby d1_66) (by decide) (by decide) (by decide) ?_
  have fk1 : Sta Z h0 "com/example/dirbound/dirbound/DirectoryException$Failure" "UNEXPECTED" "Lcom/example/dirbound/dirbound/DirectoryException$Failure;" (.ref f8) := G24.ext O0.2
  refine Go.getS X0 hx hZ hown (host := "") (Or.inl (tw_65 hw)) Via.refl e0 fk1 (pc' := 76) rfl (hb hby d1_73) ?_
  intro T2 e2 X2
  refine Go.retR X2 hx hlk (t := (.object "com/example/dirbound/dirbound/DirectoryException$Failure")) hret rfl rfl (hb hby d1_76) (by decide) (by decide) ?_
  rw [e2]
  exact ⟨rfl, (Fr.nil n0), rfl⟩
-- java/lang/Enum.ordinal
set_option maxRecDepth 65536 in
set_option maxHeartbeats 4000000 in
theorem au_51 (l : Launch) (Z : State) (a0 : Array Value) (hw : ∀ d ∈ tables_1, d.before a0 Z = true) (f0 : Addr) (f1 : Addr) (f2 : Addr) (f3 : Addr) (f4 : Addr) (f5 : Addr) (f6 : Addr) (f7 : Addr) (f8 : Addr) (u0 : Addr) (u1 : Addr) (u2 : Addr) (u3 : Addr) (u4 : Addr) (u5 : Addr) (u6 : Addr) (u7 : Addr) (sw : Addr) (kk : ClassId) (h0 : Heap) (n0 : Nat) (Z0 : n0 ≤ h0.size) (O0 : Old Z n0 h0) (G : Glob Z f0 f1 f2 f3 f4 f5 f6 f7 f8 u0 u1 u2 u3 u4 u5 u6 u7 sw kk) :
    Ctr l Z (⟨"java/lang/Enum", "ordinal", "()I"⟩ : MethodName) jdk_37_method_2_code 1 (some .int) ({ frames := 0, cells := 0, slots := 0, locals := 0 } : Room) #[(.ref f8)] h0 (fun v h L => v = some (.int 8) ∧ Fr n0 L ∧ h = h0) := by
  refine Ctr.of (plainFor_of_name pn_c1) ?_
  intro p e s m below meth c T0 hx hZ hby hml hown hnm hret hlk e0 es X0
  refine Go.cast (ef_3_R m f8) ?_
  have G' := G
  obtain ⟨-, -, -, -, -, -, -, -, -, -, -, -, -, -, -, -, -, -, -, -, -, -, -, -, -, -, G26, -, -, -, -, -, -, -, -, -, -, -, -, -, -, -, -, -, -, -, -, -, -, -, -, -, -⟩ := G'
  refine Go.aloadN X0 hx (pc' := 1) rfl (hb hby d3_0) rfl rfl ?_
  have fk1 : Fld Z h0 f8 "java/lang/Enum" "ordinal" "I" (.int 8) := G26.ext O0.2
  refine Go.getF X0 hx hZ hown (host := "") (Or.inl (tw_22 hw)) Via.refl e0 fk1 (pc' := 4) rfl (hb hby d3_1) ?_
  intro T2 e2 X2
  refine Go.retI X2 hx hlk hret (hb hby d3_4) (by decide) (by decide) ?_
  rw [e2]
  exact ⟨rfl, (Fr.nil n0), rfl⟩
-- com/example/dirbound/dirbound/cli/ExitCode.of
set_option maxRecDepth 65536 in
set_option maxHeartbeats 4000000 in
theorem au_50 (l : Launch) (Z : State) (a0 : Array Value) (hw : ∀ d ∈ tables_1, d.before a0 Z = true) (f0 : Addr) (f1 : Addr) (f2 : Addr) (f3 : Addr) (f4 : Addr) (f5 : Addr) (f6 : Addr) (f7 : Addr) (f8 : Addr) (u0 : Addr) (u1 : Addr) (u2 : Addr) (u3 : Addr) (u4 : Addr) (u5 : Addr) (u6 : Addr) (u7 : Addr) (sw : Addr) (kk : ClassId) (h0 : Heap) (n0 : Nat) (Z0 : n0 ≤ h0.size) (O0 : Old Z n0 h0) (G : Glob Z f0 f1 f2 f3 f4 f5 f6 f7 f8 u0 u1 u2 u3 u4 u5 u6 u7 sw kk) :
    Ctr l Z (⟨"com/example/dirbound/dirbound/cli/ExitCode", "of", "(Lcom/example/dirbound/dirbound/DirectoryException$Failure;)Lcom/example/dirbound/dirbound/cli/ExitCode;"⟩ : MethodName) prog_34_method_4_code 1 (some (.object "com/example/dirbound/dirbound/cli/ExitCode")) ({ frames := 1, cells := 0, slots := 0, locals := 13 } : Room) #[(.ref f8)] h0 (fun v h L => v = some (.ref u7) ∧ Fr n0 L ∧ h = h0) := by
  refine Ctr.of (plainFor_of_name pn_c2) ?_
  intro p e s m below meth c T0 hx hZ hby hml hown hnm hret hlk e0 es X0
  refine Go.cast (ef_2_R m f8) ?_
  have G' := G
  obtain ⟨-, -, -, -, -, -, -, -, -, -, -, -, -, -, -, -, -, -, -, -, -, -, -, -, -, G25, -, -, -, -, -, -, -, -, -, -, -, -, -, -, -, -, -, -, -, -, -, -, G48, -, -, G51, G52⟩ := G'
  have fk1 : Sta Z h0 "com/example/dirbound/dirbound/cli/ExitCode$1" "$SwitchMap$com$example$dirbound$dirbound$DirectoryException$Failure" "[I" (.ref sw) := G51.ext O0.2
  refine Go.getS X0 hx hZ hown (host := "") (Or.inl (tw_12 hw)) Via.refl e0 fk1 (pc' := 3) rfl (hb hby d2_0) ?_
  intro T2 e2 X2
  refine Go.aloadN X2 hx (pc' := 4) rfl (hb hby d2_3) rfl rfl ?_
  have fk3 : Exa Z h0 f8 "com/example/dirbound/dirbound/DirectoryException$Failure" := G25.ext O0.2
  refine Go.callU X2 hx hZ hown (tw_15 hw) (tw_16 hw) (tw_17 hw) (tw_19 hw) (tw_18 hw) (by decide) (tw_21 hw) (tw_20 hw) (au_51 l Z a0 hw f0 f1 f2 f3 f4 f5 f6 f7 f8 u0 u1 u2 u3 u4 u5 u6 u7 sw kk h0 n0 Z0 O0 G) e2 fk3 (argsL := []) (rest := [(.ref sw)]) (pc' := 7) rfl (by rw [hml]; rfl) (lenOf pd_1 rfl) rfl rfl (W := 1) (Nat.le_of_eq rfl) (by decide) (by decide) (by decide) (by decide) (hb hby d2_4) ?_
  intro v4 T4 L4 q4 X4
  obtain ⟨rfl, N4, e4⟩ := q4
  show Go _ _ _ _ (T4.setTop (mkF m 7 #[.val (.ref f8)] [(.int 8), (.ref sw)]))
  have fk5 : Arv Z h0 sw kk .int (9 : Int32) [(.int 1), (.int 2), (.int 3), (.int 4), (.int 5), (.int 6), (.int 7), (.int 8), (.int 9)] (.int (0 : Int32)) := G52.ext O0.2
  refine Go.iaload X4 hx hZ e4 fk5 (v := (.int 9)) ⟨by decide, by decide⟩ rfl (pc' := 8) rfl (hb hby d2_7) ?_
  refine Go.tswIn X4 hx (pc' := 112) (hb hby d2_8) (by decide) (o := 104) (by decide) (by decide) (by decide) ?_
  have fk6 : Sta Z h0 "com/example/dirbound/dirbound/cli/ExitCode" "FAILURE" "Lcom/example/dirbound/dirbound/cli/ExitCode;" (.ref u7) := G48.ext O0.2
  refine Go.getS X4 hx hZ hown (host := "") (Or.inl (tw_57 hw)) Via.refl e4 fk6 (pc' := 115) rfl (hb hby d2_112) ?_
  intro T7 e7 X7
  refine Go.retR X7 hx hlk (t := (.object "com/example/dirbound/dirbound/cli/ExitCode")) hret rfl rfl (hb hby d2_115) (by decide) (by decide) ?_
  rw [e7]
  exact ⟨rfl, (Fr.app (Fr.nil n0) N4), rfl⟩
-- com/example/dirbound/dirbound/cli/ExitCodeOfPinLaw.expectedOf
set_option maxRecDepth 65536 in
set_option maxHeartbeats 4000000 in
theorem au_52 (l : Launch) (Z : State) (a0 : Array Value) (hw : ∀ d ∈ tables_1, d.before a0 Z = true) (f0 : Addr) (f1 : Addr) (f2 : Addr) (f3 : Addr) (f4 : Addr) (f5 : Addr) (f6 : Addr) (f7 : Addr) (f8 : Addr) (u0 : Addr) (u1 : Addr) (u2 : Addr) (u3 : Addr) (u4 : Addr) (u5 : Addr) (u6 : Addr) (u7 : Addr) (sw : Addr) (kk : ClassId) (h0 : Heap) (n0 : Nat) (Z0 : n0 ≤ h0.size) (O0 : Old Z n0 h0) (G : Glob Z f0 f1 f2 f3 f4 f5 f6 f7 f8 u0 u1 u2 u3 u4 u5 u6 u7 sw kk) :
    Ctr l Z (⟨"com/example/dirbound/dirbound/cli/ExitCodeOfPinLaw", "expectedOf", "(I)Lcom/example/dirbound/dirbound/cli/ExitCode;"⟩ : MethodName) method_4_code 1 (some (.object "com/example/dirbound/dirbound/cli/ExitCode")) ({ frames := 0, cells := 0, slots := 0, locals := 0 } : Room) #[(.int 8)] h0 (fun v h L => v = some (.ref u7) ∧ Fr n0 L ∧ h = h0) := by
  refine Ctr.of (plainFor_of_name pn_c0) ?_
  intro p e s m below meth c T0 hx hZ hby hml hown hnm hret hlk e0 es X0
  refine Go.cast (ef_4_I m (8 : Int32)) ?_
  have G' := G
  obtain ⟨-, -, -, -, -, -, -, -, -, -, -, -, -, -, -, -, -, -, -, -, -, -, -, -, -, -, -, -, -, -, -, -, -, -, -, -, -, -, -, -, -, -, -, -, -, -, -, -, G48, -, -, -, -⟩ := G'
  refine Go.iloadN X0 hx (pc' := 1) rfl (hb hby d4_0) rfl ?_
  refine Go.ifYes X0 hx (pc' := 8) (hb hby d4_1) (by decide) (by decide) (by decide) ?_
  refine Go.iloadN X0 hx (pc' := 9) rfl (hb hby d4_8) rfl ?_
  refine Go.iconst X0 hx (pc' := 10) rfl (hb hby d4_9) (v := (1 : Int32)) rfl ?_
  refine Go.icmpYes X0 hx (pc' := 17) (hb hby d4_10) (by decide) (by decide) (by decide) ?_
  refine Go.iloadN X0 hx (pc' := 18) rfl (hb hby d4_17) rfl ?_
  refine Go.iconst X0 hx (pc' := 19) rfl (hb hby d4_18) (v := (2 : Int32)) rfl ?_
  refine Go.icmpYes X0 hx (pc' := 26) (hb hby d4_19) (by decide) (by decide) (by decide) ?_
  refine Go.iloadN X0 hx (pc' := 27) rfl (hb hby d4_26) rfl ?_
  refine Go.iconst X0 hx (pc' := 28) rfl (hb hby d4_27) (v := (3 : Int32)) rfl ?_
  refine Go.icmpYes X0 hx (pc' := 35) (hb hby d4_28) (by decide) (by decide) (by decide) ?_
  refine Go.iloadN X0 hx (pc' := 36) rfl (hb hby d4_35) rfl ?_
  refine Go.iconst X0 hx (pc' := 37) rfl (hb hby d4_36) (v := (4 : Int32)) rfl ?_
  refine Go.icmpYes X0 hx (pc' := 44) (hb hby d4_37) (by decide) (by decide) (by decide) ?_
  refine Go.iloadN X0 hx (pc' := 45) rfl (hb hby d4_44) rfl ?_
  refine Go.iconst X0 hx (pc' := 46) rfl (hb hby d4_45) (v := (5 : Int32)) rfl ?_
  refine Go.icmpYes X0 hx (pc' := 53) (hb hby d4_46) (by decide) (by decide) (by decide) ?_
  refine Go.iloadN X0 hx (pc' := 54) rfl (hb hby d4_53) rfl ?_
  refine Go.bipush X0 hx (pc' := 56) rfl (hb hby d4_54) (v := (6 : Int32)) (by decide) ?_
  refine Go.icmpYes X0 hx (pc' := 63) (hb hby d4_56) (by decide) (by decide) (by decide) ?_
  have fk1 : Sta Z h0 "com/example/dirbound/dirbound/cli/ExitCode" "FAILURE" "Lcom/example/dirbound/dirbound/cli/ExitCode;" (.ref u7) := G48.ext O0.2
  refine Go.getS X0 hx hZ hown (host := "") (Or.inl (tw_59 hw)) Via.refl e0 fk1 (pc' := 66) rfl (hb hby d4_63) ?_
  intro T2 e2 X2
  refine Go.retR X2 hx hlk (t := (.object "com/example/dirbound/dirbound/cli/ExitCode")) hret rfl rfl (hb hby d4_66) (by decide) (by decide) ?_
  rw [e2]
  exact ⟨rfl, (Fr.nil n0), rfl⟩
-- com/example/dirbound/dirbound/cli/ExitCodeOfPinLaw.statusOf
set_option maxRecDepth 65536 in
set_option maxHeartbeats 4000000 in
theorem au_53 (l : Launch) (Z : State) (a0 : Array Value) (hw : ∀ d ∈ tables_1, d.before a0 Z = true)  (h0 : Heap) (n0 : Nat) (Z0 : n0 ≤ h0.size) :
    Ctr l Z (⟨"com/example/dirbound/dirbound/cli/ExitCodeOfPinLaw", "statusOf", "(I)I"⟩ : MethodName) method_5_code 1 (some .int) ({ frames := 0, cells := 0, slots := 0, locals := 0 } : Room) #[(.int 8)] h0 (fun v h L => v = some (.int 1) ∧ Fr n0 L ∧ h = h0) := by
  refine Ctr.of (plainFor_of_name pn_c0) ?_
  intro p e s m below meth c T0 hx hZ hby hml hown hnm hret hlk e0 es X0
  refine Go.cast (ef_6_I m (8 : Int32)) ?_
  refine Go.iloadN X0 hx (pc' := 1) rfl (hb hby d6_0) rfl ?_
  refine Go.bipush X0 hx (pc' := 3) rfl (hb hby d6_1) (v := (6 : Int32)) (by decide) ?_
  refine Go.icmpYes X0 hx (pc' := 10) (hb hby d6_3) (by decide) (by decide) (by decide) ?_
  refine Go.iconst X0 hx (pc' := 11) rfl (hb hby d6_10) (v := (1 : Int32)) rfl ?_
  refine Go.retI X0 hx hlk hret (hb hby d6_11) (by decide) (by decide) ?_
  rw [e0]
  exact ⟨rfl, (Fr.nil n0), rfl⟩
theorem ef_0_I (m : MethodId) (x0 : Int32) : entryFrame m #[(.int x0)] maxLocals = mkF m 0 #[.val (.int x0), .unset, .unset, .unset] [] := by first | (simp [entryFrame, mkF, argsToLocals, Value.category, maxLocals]; done) | rfl
set_option maxRecDepth 65536 in
set_option maxHeartbeats 40000000 in
theorem rm0 (l : Launch) (Z : State) (a0 : Array Value) (hw : ∀ d ∈ tables_1, d.before a0 Z = true) (p0 : Int32) (f0 : Addr) (f1 : Addr) (f2 : Addr) (f3 : Addr) (f4 : Addr) (f5 : Addr) (f6 : Addr) (f7 : Addr) (f8 : Addr) (u0 : Addr) (u1 : Addr) (u2 : Addr) (u3 : Addr) (u4 : Addr) (u5 : Addr) (u6 : Addr) (u7 : Addr) (sw : Addr) (kk : ClassId) (h0 : Heap) (n0 : Nat) (Z0 : n0 ≤ h0.size) (O0 : Old Z n0 h0) (G : Glob Z f0 f1 f2 f3 f4 f5 f6 f7 f8 u0 u1 u2 u3 u4 u5 u6 u7 sw kk) :
    Ctr l Z x code maxLocals ret room_1 #[(.int p0)] h0 (fun v h L => v = some (.int (1 : Int32)) ∧ Fr n0 L) := by
  refine Ctr.of (plainFor_of_name pn_c0) ?_
  intro p e s m below meth c T0 hx hZ hby hml hown hnm hret hlk e0 es X0
  refine Go.cast (ef_0_I m p0) ?_
  have G' := G
  obtain ⟨-, -, -, -, -, -, -, -, -, -, -, -, -, -, -, -, -, -, -, -, -, -, -, -, -, -, -, -, G28, -, -, G31, -, -, G34, -, -, G37, -, -, G40, -, -, G43, -, -, G46, -, -, G49, -, -, -⟩ := G'
  refine Go.iloadN X0 hx (pc' := 1) rfl (hb hby at_0) rfl ?_
  refine Go.ldcI X0 hx hZ hown (tw_0 hw) (pc' := 3) rfl (hb hby at_1) ?_
  refine Go.iand X0 hx (pc' := 4) rfl (hb hby at_3) ?_
  generalize hz1 : (p0 &&& (2147483647 : Int32)) = z1
  refine Go.bipush X0 hx (pc' := 6) rfl (hb hby at_4) (v := (9 : Int32)) (by decide) ?_
  refine Go.irem X0 hx (pc' := 7) rfl (hb hby at_6) (by decide) ?_
  have r2 : 0 ≤ z1.toInt ∧ z1.toInt ≤ 2147483647 := own_rand hz1 (by decide)
  generalize hz3 : (z1 % (9 : Int32)) = z3
  refine Go.istoreN X0 hx (pc' := 8) rfl (hb hby at_7) (Ls' := #[.val (.int p0), .val (.int z3), .unset, .unset]) rfl ?_
  have r4 : 0 ≤ z3.toInt ∧ z3.toInt ≤ 8 := own_rrem hz3 (d := 9) (by decide) (by decide) r2 (by decide) (by decide)
  rcases own_cs_0_8 r4 with rfl | rfl | rfl | rfl | rfl | rfl | rfl | rfl | rfl
  · refine Go.iloadN X0 hx (pc' := 9) rfl (hb hby at_8) rfl ?_
    refine Go.callS X0 hx hZ hown (tw_1 hw) (tw_2 hw) (tw_3 hw) (tw_4 hw) (by decide) (tw_4 hw) (tw_3 hw) (au_1 l Z a0 hw f0 f1 f2 f3 f4 f5 f6 f7 f8 u0 u1 u2 u3 u4 u5 u6 u7 sw kk h0 n0 Z0 O0 G) e0 (argsL := [(.int 0)]) (rest := []) (pc' := 12) rfl (by rw [hml]; rfl) (lenOf pd_0 rfl) rfl rfl (W := 0) (Nat.le_of_eq rfl) (by decide) (by decide) (by decide) (by decide) (hb hby at_9) ?_
    intro v5 T5 L5 q5 X5
    obtain ⟨rfl, N5, e5⟩ := q5
    show Go _ _ _ _ (T5.setTop (mkF m 12 #[.val (.int p0), .val (.int 0), .unset, .unset] [(.ref f0)]))
    refine Go.astoreN X5 hx (pc' := 13) rfl (hb hby at_12) (Ls' := #[.val (.int p0), .val (.int 0), .val (.ref f0), .unset]) rfl rfl ?_
    refine Go.aloadN X5 hx (pc' := 14) rfl (hb hby at_13) rfl rfl ?_
    refine Go.callS X5 hx hZ hown (tw_8 hw) (tw_9 hw) (tw_10 hw) (tw_11 hw) (by decide) (tw_11 hw) (tw_10 hw) (au_2 l Z a0 hw f0 f1 f2 f3 f4 f5 f6 f7 f8 u0 u1 u2 u3 u4 u5 u6 u7 sw kk h0 n0 Z0 O0 G) e5 (argsL := [(.ref f0)]) (rest := []) (pc' := 17) rfl (by rw [hml]; rfl) (lenOf pd_2 rfl) rfl rfl (W := 0) (Nat.le_of_eq rfl) (by decide) (by decide) (by decide) (by decide) (hb hby at_14) ?_
    intro v6 T6 L6 q6 X6
    obtain ⟨rfl, N6, e6⟩ := q6
    show Go _ _ _ _ (T6.setTop (mkF m 17 #[.val (.int p0), .val (.int 0), .val (.ref f0), .unset] [(.ref u0)]))
    refine Go.astoreN X6 hx (pc' := 18) rfl (hb hby at_17) (Ls' := #[.val (.int p0), .val (.int 0), .val (.ref f0), .val (.ref u0)]) rfl rfl ?_
    refine Go.aloadN X6 hx (pc' := 19) rfl (hb hby at_18) rfl rfl ?_
    refine Go.iloadN X6 hx (pc' := 20) rfl (hb hby at_19) rfl ?_
    refine Go.callS X6 hx hZ hown (tw_26 hw) (tw_27 hw) (tw_3 hw) (tw_28 hw) (by decide) (tw_28 hw) (tw_3 hw) (au_4 l Z a0 hw f0 f1 f2 f3 f4 f5 f6 f7 f8 u0 u1 u2 u3 u4 u5 u6 u7 sw kk h0 n0 Z0 O0 G) e6 (argsL := [(.int 0)]) (rest := [(.ref u0)]) (pc' := 23) rfl (by rw [hml]; rfl) (lenOf pd_3 rfl) rfl rfl (W := 1) (Nat.le_of_eq rfl) (by decide) (by decide) (by decide) (by decide) (hb hby at_20) ?_
    intro v7 T7 L7 q7 X7
    obtain ⟨rfl, N7, e7⟩ := q7
    show Go _ _ _ _ (T7.setTop (mkF m 23 #[.val (.int p0), .val (.int 0), .val (.ref f0), .val (.ref u0)] [(.ref u0), (.ref u0)]))
    refine Go.acmp X7 hx (pc' := 26) (same := true) (hb hby at_23) rfl rfl (decide_eq_true rfl) (by decide) (by decide) ?_
    refine Go.aloadN X7 hx (pc' := 27) rfl (hb hby at_26) rfl rfl ?_
    have fk8 : Exa Z h0 u0 "com/example/dirbound/dirbound/cli/ExitCode" := G28.ext O0.2
    refine Go.callV X7 hx hZ hown (tw_30 hw) (tw_31 hw) (notFace_of_selects (args := #[]) (mvT hZ (tw_33 hw))) (tw_33 hw) (tw_32 hw) (by decide) (tw_34 hw) (tw_10 hw) (au_5 l Z a0 hw f0 f1 f2 f3 f4 f5 f6 f7 f8 u0 u1 u2 u3 u4 u5 u6 u7 sw kk h0 n0 Z0 O0 G) e7 fk8 (argsL := []) (rest := []) (pc' := 30) rfl (by rw [hml]; rfl) (lenOf pd_1 rfl) rfl rfl (W := 0) (Nat.le_of_eq rfl) (by decide) (by decide) (by decide) (by decide) (hb hby at_27) ?_
    intro v9 T9 L9 q9 X9
    obtain ⟨rfl, N9, e9⟩ := q9
    show Go _ _ _ _ (T9.setTop (mkF m 30 #[.val (.int p0), .val (.int 0), .val (.ref f0), .val (.ref u0)] [(.int 2)]))
    refine Go.iloadN X9 hx (pc' := 31) rfl (hb hby at_30) rfl ?_
    refine Go.callS X9 hx hZ hown (tw_37 hw) (tw_38 hw) (tw_3 hw) (tw_39 hw) (by decide) (tw_39 hw) (tw_3 hw) (au_6 l Z a0 hw h0 n0 Z0) e9 (argsL := [(.int 0)]) (rest := [(.int 2)]) (pc' := 34) rfl (by rw [hml]; rfl) (lenOf pd_4 rfl) rfl rfl (W := 1) (Nat.le_of_eq rfl) (by decide) (by decide) (by decide) (by decide) (hb hby at_31) ?_
    intro v10 T10 L10 q10 X10
    obtain ⟨rfl, N10, e10⟩ := q10
    show Go _ _ _ _ (T10.setTop (mkF m 34 #[.val (.int p0), .val (.int 0), .val (.ref f0), .val (.ref u0)] [(.int 2), (.int 2)]))
    refine Go.icmpNo X10 hx (pc' := 37) rfl (hb hby at_34) (by decide) ?_
    refine Go.iconst X10 hx (pc' := 38) rfl (hb hby at_37) (v := (1 : Int32)) rfl ?_
    refine Go.goto X10 hx (pc' := 42) (hb hby at_38) (by decide) (by decide) ?_
    refine Go.retN X10 hx hlk (t := .boolean) hret (by simp) (hb hby at_42) (by decide) (by decide) ?_
    exact ⟨rfl, (Fr.app (Fr.app (Fr.app (Fr.app (Fr.app (Fr.nil n0) N5) N6) N7) N9) N10)⟩
  · refine Go.iloadN X0 hx (pc' := 9) rfl (hb hby at_8) rfl ?_
    refine Go.callS X0 hx hZ hown (tw_1 hw) (tw_2 hw) (tw_3 hw) (tw_4 hw) (by decide) (tw_4 hw) (tw_3 hw) (au_7 l Z a0 hw f0 f1 f2 f3 f4 f5 f6 f7 f8 u0 u1 u2 u3 u4 u5 u6 u7 sw kk h0 n0 Z0 O0 G) e0 (argsL := [(.int 1)]) (rest := []) (pc' := 12) rfl (by rw [hml]; rfl) (lenOf pd_0 rfl) rfl rfl (W := 0) (Nat.le_of_eq rfl) (by decide) (by decide) (by decide) (by decide) (hb hby at_9) ?_
    intro v11 T11 L11 q11 X11
    obtain ⟨rfl, N11, e11⟩ := q11
    show Go _ _ _ _ (T11.setTop (mkF m 12 #[.val (.int p0), .val (.int 1), .unset, .unset] [(.ref f1)]))
    refine Go.astoreN X11 hx (pc' := 13) rfl (hb hby at_12) (Ls' := #[.val (.int p0), .val (.int 1), .val (.ref f1), .unset]) rfl rfl ?_
    refine Go.aloadN X11 hx (pc' := 14) rfl (hb hby at_13) rfl rfl ?_
    refine Go.callS X11 hx hZ hown (tw_8 hw) (tw_9 hw) (tw_10 hw) (tw_11 hw) (by decide) (tw_11 hw) (tw_10 hw) (au_8 l Z a0 hw f0 f1 f2 f3 f4 f5 f6 f7 f8 u0 u1 u2 u3 u4 u5 u6 u7 sw kk h0 n0 Z0 O0 G) e11 (argsL := [(.ref f1)]) (rest := []) (pc' := 17) rfl (by rw [hml]; rfl) (lenOf pd_2 rfl) rfl rfl (W := 0) (Nat.le_of_eq rfl) (by decide) (by decide) (by decide) (by decide) (hb hby at_14) ?_
    intro v12 T12 L12 q12 X12
    obtain ⟨rfl, N12, e12⟩ := q12
    show Go _ _ _ _ (T12.setTop (mkF m 17 #[.val (.int p0), .val (.int 1), .val (.ref f1), .unset] [(.ref u1)]))
    refine Go.astoreN X12 hx (pc' := 18) rfl (hb hby at_17) (Ls' := #[.val (.int p0), .val (.int 1), .val (.ref f1), .val (.ref u1)]) rfl rfl ?_
    refine Go.aloadN X12 hx (pc' := 19) rfl (hb hby at_18) rfl rfl ?_
    refine Go.iloadN X12 hx (pc' := 20) rfl (hb hby at_19) rfl ?_
    refine Go.callS X12 hx hZ hown (tw_26 hw) (tw_27 hw) (tw_3 hw) (tw_28 hw) (by decide) (tw_28 hw) (tw_3 hw) (au_10 l Z a0 hw f0 f1 f2 f3 f4 f5 f6 f7 f8 u0 u1 u2 u3 u4 u5 u6 u7 sw kk h0 n0 Z0 O0 G) e12 (argsL := [(.int 1)]) (rest := [(.ref u1)]) (pc' := 23) rfl (by rw [hml]; rfl) (lenOf pd_3 rfl) rfl rfl (W := 1) (Nat.le_of_eq rfl) (by decide) (by decide) (by decide) (by decide) (hb hby at_20) ?_
    intro v13 T13 L13 q13 X13
    obtain ⟨rfl, N13, e13⟩ := q13
    show Go _ _ _ _ (T13.setTop (mkF m 23 #[.val (.int p0), .val (.int 1), .val (.ref f1), .val (.ref u1)] [(.ref u1), (.ref u1)]))
    refine Go.acmp X13 hx (pc' := 26) (same := true) (hb hby at_23) rfl rfl (decide_eq_true rfl) (by decide) (by decide) ?_
    refine Go.aloadN X13 hx (pc' := 27) rfl (hb hby at_26) rfl rfl ?_
    have fk14 : Exa Z h0 u1 "com/example/dirbound/dirbound/cli/ExitCode" := G31.ext O0.2
    refine Go.callV X13 hx hZ hown (tw_30 hw) (tw_31 hw) (notFace_of_selects (args := #[]) (mvT hZ (tw_33 hw))) (tw_33 hw) (tw_32 hw) (by decide) (tw_34 hw) (tw_10 hw) (au_11 l Z a0 hw f0 f1 f2 f3 f4 f5 f6 f7 f8 u0 u1 u2 u3 u4 u5 u6 u7 sw kk h0 n0 Z0 O0 G) e13 fk14 (argsL := []) (rest := []) (pc' := 30) rfl (by rw [hml]; rfl) (lenOf pd_1 rfl) rfl rfl (W := 0) (Nat.le_of_eq rfl) (by decide) (by decide) (by decide) (by decide) (hb hby at_27) ?_
    intro v15 T15 L15 q15 X15
    obtain ⟨rfl, N15, e15⟩ := q15
    show Go _ _ _ _ (T15.setTop (mkF m 30 #[.val (.int p0), .val (.int 1), .val (.ref f1), .val (.ref u1)] [(.int 3)]))
    refine Go.iloadN X15 hx (pc' := 31) rfl (hb hby at_30) rfl ?_
    refine Go.callS X15 hx hZ hown (tw_37 hw) (tw_38 hw) (tw_3 hw) (tw_39 hw) (by decide) (tw_39 hw) (tw_3 hw) (au_12 l Z a0 hw h0 n0 Z0) e15 (argsL := [(.int 1)]) (rest := [(.int 3)]) (pc' := 34) rfl (by rw [hml]; rfl) (lenOf pd_4 rfl) rfl rfl (W := 1) (Nat.le_of_eq rfl) (by decide) (by decide) (by decide) (by decide) (hb hby at_31) ?_
    intro v16 T16 L16 q16 X16
    obtain ⟨rfl, N16, e16⟩ := q16
    show Go _ _ _ _ (T16.setTop (mkF m 34 #[.val (.int p0), .val (.int 1), .val (.ref f1), .val (.ref u1)] [(.int 3), (.int 3)]))
    refine Go.icmpNo X16 hx (pc' := 37) rfl (hb hby at_34) (by decide) ?_
    refine Go.iconst X16 hx (pc' := 38) rfl (hb hby at_37) (v := (1 : Int32)) rfl ?_
    refine Go.goto X16 hx (pc' := 42) (hb hby at_38) (by decide) (by decide) ?_
    refine Go.retN X16 hx hlk (t := .boolean) hret (by simp) (hb hby at_42) (by decide) (by decide) ?_
    exact ⟨rfl, (Fr.app (Fr.app (Fr.app (Fr.app (Fr.app (Fr.nil n0) N11) N12) N13) N15) N16)⟩
  · refine Go.iloadN X0 hx (pc' := 9) rfl (hb hby at_8) rfl ?_
    refine Go.callS X0 hx hZ hown (tw_1 hw) (tw_2 hw) (tw_3 hw) (tw_4 hw) (by decide) (tw_4 hw) (tw_3 hw) (au_13 l Z a0 hw f0 f1 f2 f3 f4 f5 f6 f7 f8 u0 u1 u2 u3 u4 u5 u6 u7 sw kk h0 n0 Z0 O0 G) e0 (argsL := [(.int 2)]) (rest := []) (pc' := 12) rfl (by rw [hml]; rfl) (lenOf pd_0 rfl) rfl rfl (W := 0) (Nat.le_of_eq rfl) (by decide) (by decide) (by decide) (by decide) (hb hby at_9) ?_
    intro v17 T17 L17 q17 X17
    obtain ⟨rfl, N17, e17⟩ := q17
    show Go _ _ _ _ (T17.setTop (mkF m 12 #[.val (.int p0), .val (.int 2), .unset, .unset] [(.ref f2)]))
    refine Go.astoreN X17 hx (pc' := 13) rfl (hb hby at_12) (Ls' := #[.val (.int p0), .val (.int 2), .val (.ref f2), .unset]) rfl rfl ?_
    refine Go.aloadN X17 hx (pc' := 14) rfl (hb hby at_13) rfl rfl ?_
    refine Go.callS X17 hx hZ hown (tw_8 hw) (tw_9 hw) (tw_10 hw) (tw_11 hw) (by decide) (tw_11 hw) (tw_10 hw) (au_14 l Z a0 hw f0 f1 f2 f3 f4 f5 f6 f7 f8 u0 u1 u2 u3 u4 u5 u6 u7 sw kk h0 n0 Z0 O0 G) e17 (argsL := [(.ref f2)]) (rest := []) (pc' := 17) rfl (by rw [hml]; rfl) (lenOf pd_2 rfl) rfl rfl (W := 0) (Nat.le_of_eq rfl) (by decide) (by decide) (by decide) (by decide) (hb hby at_14) ?_
    intro v18 T18 L18 q18 X18
    obtain ⟨rfl, N18, e18⟩ := q18
    show Go _ _ _ _ (T18.setTop (mkF m 17 #[.val (.int p0), .val (.int 2), .val (.ref f2), .unset] [(.ref u2)]))
    refine Go.astoreN X18 hx (pc' := 18) rfl (hb hby at_17) (Ls' := #[.val (.int p0), .val (.int 2), .val (.ref f2), .val (.ref u2)]) rfl rfl ?_
    refine Go.aloadN X18 hx (pc' := 19) rfl (hb hby at_18) rfl rfl ?_
    refine Go.iloadN X18 hx (pc' := 20) rfl (hb hby at_19) rfl ?_
    refine Go.callS X18 hx hZ hown (tw_26 hw) (tw_27 hw) (tw_3 hw) (tw_28 hw) (by decide) (tw_28 hw) (tw_3 hw) (au_16 l Z a0 hw f0 f1 f2 f3 f4 f5 f6 f7 f8 u0 u1 u2 u3 u4 u5 u6 u7 sw kk h0 n0 Z0 O0 G) e18 (argsL := [(.int 2)]) (rest := [(.ref u2)]) (pc' := 23) rfl (by rw [hml]; rfl) (lenOf pd_3 rfl) rfl rfl (W := 1) (Nat.le_of_eq rfl) (by decide) (by decide) (by decide) (by decide) (hb hby at_20) ?_
    intro v19 T19 L19 q19 X19
    obtain ⟨rfl, N19, e19⟩ := q19
    show Go _ _ _ _ (T19.setTop (mkF m 23 #[.val (.int p0), .val (.int 2), .val (.ref f2), .val (.ref u2)] [(.ref u2), (.ref u2)]))
    refine Go.acmp X19 hx (pc' := 26) (same := true) (hb hby at_23) rfl rfl (decide_eq_true rfl) (by decide) (by decide) ?_
    refine Go.aloadN X19 hx (pc' := 27) rfl (hb hby at_26) rfl rfl ?_
    have fk20 : Exa Z h0 u2 "com/example/dirbound/dirbound/cli/ExitCode" := G34.ext O0.2
    refine Go.callV X19 hx hZ hown (tw_30 hw) (tw_31 hw) (notFace_of_selects (args := #[]) (mvT hZ (tw_33 hw))) (tw_33 hw) (tw_32 hw) (by decide) (tw_34 hw) (tw_10 hw) (au_17 l Z a0 hw f0 f1 f2 f3 f4 f5 f6 f7 f8 u0 u1 u2 u3 u4 u5 u6 u7 sw kk h0 n0 Z0 O0 G) e19 fk20 (argsL := []) (rest := []) (pc' := 30) rfl (by rw [hml]; rfl) (lenOf pd_1 rfl) rfl rfl (W := 0) (Nat.le_of_eq rfl) (by decide) (by decide) (by decide) (by decide) (hb hby at_27) ?_
    intro v21 T21 L21 q21 X21
    obtain ⟨rfl, N21, e21⟩ := q21
    show Go _ _ _ _ (T21.setTop (mkF m 30 #[.val (.int p0), .val (.int 2), .val (.ref f2), .val (.ref u2)] [(.int 4)]))
    refine Go.iloadN X21 hx (pc' := 31) rfl (hb hby at_30) rfl ?_
    refine Go.callS X21 hx hZ hown (tw_37 hw) (tw_38 hw) (tw_3 hw) (tw_39 hw) (by decide) (tw_39 hw) (tw_3 hw) (au_18 l Z a0 hw h0 n0 Z0) e21 (argsL := [(.int 2)]) (rest := [(.int 4)]) (pc' := 34) rfl (by rw [hml]; rfl) (lenOf pd_4 rfl) rfl rfl (W := 1) (Nat.le_of_eq rfl) (by decide) (by decide) (by decide) (by decide) (hb hby at_31) ?_
    intro v22 T22 L22 q22 X22
    obtain ⟨rfl, N22, e22⟩ := q22
    show Go _ _ _ _ (T22.setTop (mkF m 34 #[.val (.int p0), .val (.int 2), .val (.ref f2), .val (.ref u2)] [(.int 4), (.int 4)]))
    refine Go.icmpNo X22 hx (pc' := 37) rfl (hb hby at_34) (by decide) ?_
    refine Go.iconst X22 hx (pc' := 38) rfl (hb hby at_37) (v := (1 : Int32)) rfl ?_
    refine Go.goto X22 hx (pc' := 42) (hb hby at_38) (by decide) (by decide) ?_
    refine Go.retN X22 hx hlk (t := .boolean) hret (by simp) (hb hby at_42) (by decide) (by decide) ?_
    exact ⟨rfl, (Fr.app (Fr.app (Fr.app (Fr.app (Fr.app (Fr.nil n0) N17) N18) N19) N21) N22)⟩
  · refine Go.iloadN X0 hx (pc' := 9) rfl (hb hby at_8) rfl ?_
    refine Go.callS X0 hx hZ hown (tw_1 hw) (tw_2 hw) (tw_3 hw) (tw_4 hw) (by decide) (tw_4 hw) (tw_3 hw) (au_19 l Z a0 hw f0 f1 f2 f3 f4 f5 f6 f7 f8 u0 u1 u2 u3 u4 u5 u6 u7 sw kk h0 n0 Z0 O0 G) e0 (argsL := [(.int 3)]) (rest := []) (pc' := 12) rfl (by rw [hml]; rfl) (lenOf pd_0 rfl) rfl rfl (W := 0) (Nat.le_of_eq rfl) (by decide) (by decide) (by decide) (by decide) (hb hby at_9) ?_
    intro v23 T23 L23 q23 X23
    obtain ⟨rfl, N23, e23⟩ := q23
    show Go _ _ _ _ (T23.setTop (mkF m 12 #[.val (.int p0), .val (.int 3), .unset, .unset] [(.ref f3)]))
    refine Go.astoreN X23 hx (pc' := 13) rfl (hb hby at_12) (Ls' := #[.val (.int p0), .val (.int 3), .val (.ref f3), .unset]) rfl rfl ?_
    refine Go.aloadN X23 hx (pc' := 14) rfl (hb hby at_13) rfl rfl ?_
    refine Go.callS X23 hx hZ hown (tw_8 hw) (tw_9 hw) (tw_10 hw) (tw_11 hw) (by decide) (tw_11 hw) (tw_10 hw) (au_20 l Z a0 hw f0 f1 f2 f3 f4 f5 f6 f7 f8 u0 u1 u2 u3 u4 u5 u6 u7 sw kk h0 n0 Z0 O0 G) e23 (argsL := [(.ref f3)]) (rest := []) (pc' := 17) rfl (by rw [hml]; rfl) (lenOf pd_2 rfl) rfl rfl (W := 0) (Nat.le_of_eq rfl) (by decide) (by decide) (by decide) (by decide) (hb hby at_14) ?_
    intro v24 T24 L24 q24 X24
    obtain ⟨rfl, N24, e24⟩ := q24
    show Go _ _ _ _ (T24.setTop (mkF m 17 #[.val (.int p0), .val (.int 3), .val (.ref f3), .unset] [(.ref u3)]))
    refine Go.astoreN X24 hx (pc' := 18) rfl (hb hby at_17) (Ls' := #[.val (.int p0), .val (.int 3), .val (.ref f3), .val (.ref u3)]) rfl rfl ?_
    refine Go.aloadN X24 hx (pc' := 19) rfl (hb hby at_18) rfl rfl ?_
    refine Go.iloadN X24 hx (pc' := 20) rfl (hb hby at_19) rfl ?_
    refine Go.callS X24 hx hZ hown (tw_26 hw) (tw_27 hw) (tw_3 hw) (tw_28 hw) (by decide) (tw_28 hw) (tw_3 hw) (au_22 l Z a0 hw f0 f1 f2 f3 f4 f5 f6 f7 f8 u0 u1 u2 u3 u4 u5 u6 u7 sw kk h0 n0 Z0 O0 G) e24 (argsL := [(.int 3)]) (rest := [(.ref u3)]) (pc' := 23) rfl (by rw [hml]; rfl) (lenOf pd_3 rfl) rfl rfl (W := 1) (Nat.le_of_eq rfl) (by decide) (by decide) (by decide) (by decide) (hb hby at_20) ?_
    intro v25 T25 L25 q25 X25
    obtain ⟨rfl, N25, e25⟩ := q25
    show Go _ _ _ _ (T25.setTop (mkF m 23 #[.val (.int p0), .val (.int 3), .val (.ref f3), .val (.ref u3)] [(.ref u3), (.ref u3)]))
    refine Go.acmp X25 hx (pc' := 26) (same := true) (hb hby at_23) rfl rfl (decide_eq_true rfl) (by decide) (by decide) ?_
    refine Go.aloadN X25 hx (pc' := 27) rfl (hb hby at_26) rfl rfl ?_
    have fk26 : Exa Z h0 u3 "com/example/dirbound/dirbound/cli/ExitCode" := G37.ext O0.2
    refine Go.callV X25 hx hZ hown (tw_30 hw) (tw_31 hw) (notFace_of_selects (args := #[]) (mvT hZ (tw_33 hw))) (tw_33 hw) (tw_32 hw) (by decide) (tw_34 hw) (tw_10 hw) (au_23 l Z a0 hw f0 f1 f2 f3 f4 f5 f6 f7 f8 u0 u1 u2 u3 u4 u5 u6 u7 sw kk h0 n0 Z0 O0 G) e25 fk26 (argsL := []) (rest := []) (pc' := 30) rfl (by rw [hml]; rfl) (lenOf pd_1 rfl) rfl rfl (W := 0) (Nat.le_of_eq rfl) (by decide) (by decide) (by decide) (by decide) (hb hby at_27) ?_
    intro v27 T27 L27 q27 X27
    obtain ⟨rfl, N27, e27⟩ := q27
    show Go _ _ _ _ (T27.setTop (mkF m 30 #[.val (.int p0), .val (.int 3), .val (.ref f3), .val (.ref u3)] [(.int 5)]))
    refine Go.iloadN X27 hx (pc' := 31) rfl (hb hby at_30) rfl ?_
    refine Go.callS X27 hx hZ hown (tw_37 hw) (tw_38 hw) (tw_3 hw) (tw_39 hw) (by decide) (tw_39 hw) (tw_3 hw) (au_24 l Z a0 hw h0 n0 Z0) e27 (argsL := [(.int 3)]) (rest := [(.int 5)]) (pc' := 34) rfl (by rw [hml]; rfl) (lenOf pd_4 rfl) rfl rfl (W := 1) (Nat.le_of_eq rfl) (by decide) (by decide) (by decide) (by decide) (hb hby at_31) ?_
    intro v28 T28 L28 q28 X28
    obtain ⟨rfl, N28, e28⟩ := q28
    show Go _ _ _ _ (T28.setTop (mkF m 34 #[.val (.int p0), .val (.int 3), .val (.ref f3), .val (.ref u3)] [(.int 5), (.int 5)]))
    refine Go.icmpNo X28 hx (pc' := 37) rfl (hb hby at_34) (by decide) ?_
    refine Go.iconst X28 hx (pc' := 38) rfl (hb hby at_37) (v := (1 : Int32)) rfl ?_
    refine Go.goto X28 hx (pc' := 42) (hb hby at_38) (by decide) (by decide) ?_
    refine Go.retN X28 hx hlk (t := .boolean) hret (by simp) (hb hby at_42) (by decide) (by decide) ?_
    exact ⟨rfl, (Fr.app (Fr.app (Fr.app (Fr.app (Fr.app (Fr.nil n0) N23) N24) N25) N27) N28)⟩
  · refine Go.iloadN X0 hx (pc' := 9) rfl (hb hby at_8) rfl ?_
    refine Go.callS X0 hx hZ hown (tw_1 hw) (tw_2 hw) (tw_3 hw) (tw_4 hw) (by decide) (tw_4 hw) (tw_3 hw) (au_25 l Z a0 hw f0 f1 f2 f3 f4 f5 f6 f7 f8 u0 u1 u2 u3 u4 u5 u6 u7 sw kk h0 n0 Z0 O0 G) e0 (argsL := [(.int 4)]) (rest := []) (pc' := 12) rfl (by rw [hml]; rfl) (lenOf pd_0 rfl) rfl rfl (W := 0) (Nat.le_of_eq rfl) (by decide) (by decide) (by decide) (by decide) (hb hby at_9) ?_
    intro v29 T29 L29 q29 X29
    obtain ⟨rfl, N29, e29⟩ := q29
    show Go _ _ _ _ (T29.setTop (mkF m 12 #[.val (.int p0), .val (.int 4), .unset, .unset] [(.ref f4)]))
    refine Go.astoreN X29 hx (pc' := 13) rfl (hb hby at_12) (Ls' := #[.val (.int p0), .val (.int 4), .val (.ref f4), .unset]) rfl rfl ?_
    refine Go.aloadN X29 hx (pc' := 14) rfl (hb hby at_13) rfl rfl ?_
    refine Go.callS X29 hx hZ hown (tw_8 hw) (tw_9 hw) (tw_10 hw) (tw_11 hw) (by decide) (tw_11 hw) (tw_10 hw) (au_26 l Z a0 hw f0 f1 f2 f3 f4 f5 f6 f7 f8 u0 u1 u2 u3 u4 u5 u6 u7 sw kk h0 n0 Z0 O0 G) e29 (argsL := [(.ref f4)]) (rest := []) (pc' := 17) rfl (by rw [hml]; rfl) (lenOf pd_2 rfl) rfl rfl (W := 0) (Nat.le_of_eq rfl) (by decide) (by decide) (by decide) (by decide) (hb hby at_14) ?_
    intro v30 T30 L30 q30 X30
    obtain ⟨rfl, N30, e30⟩ := q30
    show Go _ _ _ _ (T30.setTop (mkF m 17 #[.val (.int p0), .val (.int 4), .val (.ref f4), .unset] [(.ref u4)]))
    refine Go.astoreN X30 hx (pc' := 18) rfl (hb hby at_17) (Ls' := #[.val (.int p0), .val (.int 4), .val (.ref f4), .val (.ref u4)]) rfl rfl ?_
    refine Go.aloadN X30 hx (pc' := 19) rfl (hb hby at_18) rfl rfl ?_
    refine Go.iloadN X30 hx (pc' := 20) rfl (hb hby at_19) rfl ?_
    refine Go.callS X30 hx hZ hown (tw_26 hw) (tw_27 hw) (tw_3 hw) (tw_28 hw) (by decide) (tw_28 hw) (tw_3 hw) (au_28 l Z a0 hw f0 f1 f2 f3 f4 f5 f6 f7 f8 u0 u1 u2 u3 u4 u5 u6 u7 sw kk h0 n0 Z0 O0 G) e30 (argsL := [(.int 4)]) (rest := [(.ref u4)]) (pc' := 23) rfl (by rw [hml]; rfl) (lenOf pd_3 rfl) rfl rfl (W := 1) (Nat.le_of_eq rfl) (by decide) (by decide) (by decide) (by decide) (hb hby at_20) ?_
    intro v31 T31 L31 q31 X31
    obtain ⟨rfl, N31, e31⟩ := q31
    show Go _ _ _ _ (T31.setTop (mkF m 23 #[.val (.int p0), .val (.int 4), .val (.ref f4), .val (.ref u4)] [(.ref u4), (.ref u4)]))
    refine Go.acmp X31 hx (pc' := 26) (same := true) (hb hby at_23) rfl rfl (decide_eq_true rfl) (by decide) (by decide) ?_
    refine Go.aloadN X31 hx (pc' := 27) rfl (hb hby at_26) rfl rfl ?_
    have fk32 : Exa Z h0 u4 "com/example/dirbound/dirbound/cli/ExitCode" := G40.ext O0.2
    refine Go.callV X31 hx hZ hown (tw_30 hw) (tw_31 hw) (notFace_of_selects (args := #[]) (mvT hZ (tw_33 hw))) (tw_33 hw) (tw_32 hw) (by decide) (tw_34 hw) (tw_10 hw) (au_29 l Z a0 hw f0 f1 f2 f3 f4 f5 f6 f7 f8 u0 u1 u2 u3 u4 u5 u6 u7 sw kk h0 n0 Z0 O0 G) e31 fk32 (argsL := []) (rest := []) (pc' := 30) rfl (by rw [hml]; rfl) (lenOf pd_1 rfl) rfl rfl (W := 0) (Nat.le_of_eq rfl) (by decide) (by decide) (by decide) (by decide) (hb hby at_27) ?_
    intro v33 T33 L33 q33 X33
    obtain ⟨rfl, N33, e33⟩ := q33
    show Go _ _ _ _ (T33.setTop (mkF m 30 #[.val (.int p0), .val (.int 4), .val (.ref f4), .val (.ref u4)] [(.int 6)]))
    refine Go.iloadN X33 hx (pc' := 31) rfl (hb hby at_30) rfl ?_
    refine Go.callS X33 hx hZ hown (tw_37 hw) (tw_38 hw) (tw_3 hw) (tw_39 hw) (by decide) (tw_39 hw) (tw_3 hw) (au_30 l Z a0 hw h0 n0 Z0) e33 (argsL := [(.int 4)]) (rest := [(.int 6)]) (pc' := 34) rfl (by rw [hml]; rfl) (lenOf pd_4 rfl) rfl rfl (W := 1) (Nat.le_of_eq rfl) (by decide) (by decide) (by decide) (by decide) (hb hby at_31) ?_
    intro v34 T34 L34 q34 X34
    obtain ⟨rfl, N34, e34⟩ := q34
    show Go _ _ _ _ (T34.setTop (mkF m 34 #[.val (.int p0), .val (.int 4), .val (.ref f4), .val (.ref u4)] [(.int 6), (.int 6)]))
    refine Go.icmpNo X34 hx (pc' := 37) rfl (hb hby at_34) (by decide) ?_
    refine Go.iconst X34 hx (pc' := 38) rfl (hb hby at_37) (v := (1 : Int32)) rfl ?_
    refine Go.goto X34 hx (pc' := 42) (hb hby at_38) (by decide) (by decide) ?_
    refine Go.retN X34 hx hlk (t := .boolean) hret (by simp) (hb hby at_42) (by decide) (by decide) ?_
    exact ⟨rfl, (Fr.app (Fr.app (Fr.app (Fr.app (Fr.app (Fr.nil n0) N29) N30) N31) N33) N34)⟩
  · refine Go.iloadN X0 hx (pc' := 9) rfl (hb hby at_8) rfl ?_
    refine Go.callS X0 hx hZ hown (tw_1 hw) (tw_2 hw) (tw_3 hw) (tw_4 hw) (by decide) (tw_4 hw) (tw_3 hw) (au_31 l Z a0 hw f0 f1 f2 f3 f4 f5 f6 f7 f8 u0 u1 u2 u3 u4 u5 u6 u7 sw kk h0 n0 Z0 O0 G) e0 (argsL := [(.int 5)]) (rest := []) (pc' := 12) rfl (by rw [hml]; rfl) (lenOf pd_0 rfl) rfl rfl (W := 0) (Nat.le_of_eq rfl) (by decide) (by decide) (by decide) (by decide) (hb hby at_9) ?_
    intro v35 T35 L35 q35 X35
    obtain ⟨rfl, N35, e35⟩ := q35
    show Go _ _ _ _ (T35.setTop (mkF m 12 #[.val (.int p0), .val (.int 5), .unset, .unset] [(.ref f5)]))
    refine Go.astoreN X35 hx (pc' := 13) rfl (hb hby at_12) (Ls' := #[.val (.int p0), .val (.int 5), .val (.ref f5), .unset]) rfl rfl ?_
    refine Go.aloadN X35 hx (pc' := 14) rfl (hb hby at_13) rfl rfl ?_
    refine Go.callS X35 hx hZ hown (tw_8 hw) (tw_9 hw) (tw_10 hw) (tw_11 hw) (by decide) (tw_11 hw) (tw_10 hw) (au_32 l Z a0 hw f0 f1 f2 f3 f4 f5 f6 f7 f8 u0 u1 u2 u3 u4 u5 u6 u7 sw kk h0 n0 Z0 O0 G) e35 (argsL := [(.ref f5)]) (rest := []) (pc' := 17) rfl (by rw [hml]; rfl) (lenOf pd_2 rfl) rfl rfl (W := 0) (Nat.le_of_eq rfl) (by decide) (by decide) (by decide) (by decide) (hb hby at_14) ?_
    intro v36 T36 L36 q36 X36
    obtain ⟨rfl, N36, e36⟩ := q36
    show Go _ _ _ _ (T36.setTop (mkF m 17 #[.val (.int p0), .val (.int 5), .val (.ref f5), .unset] [(.ref u5)]))
    refine Go.astoreN X36 hx (pc' := 18) rfl (hb hby at_17) (Ls' := #[.val (.int p0), .val (.int 5), .val (.ref f5), .val (.ref u5)]) rfl rfl ?_
    refine Go.aloadN X36 hx (pc' := 19) rfl (hb hby at_18) rfl rfl ?_
    refine Go.iloadN X36 hx (pc' := 20) rfl (hb hby at_19) rfl ?_
    refine Go.callS X36 hx hZ hown (tw_26 hw) (tw_27 hw) (tw_3 hw) (tw_28 hw) (by decide) (tw_28 hw) (tw_3 hw) (au_34 l Z a0 hw f0 f1 f2 f3 f4 f5 f6 f7 f8 u0 u1 u2 u3 u4 u5 u6 u7 sw kk h0 n0 Z0 O0 G) e36 (argsL := [(.int 5)]) (rest := [(.ref u5)]) (pc' := 23) rfl (by rw [hml]; rfl) (lenOf pd_3 rfl) rfl rfl (W := 1) (Nat.le_of_eq rfl) (by decide) (by decide) (by decide) (by decide) (hb hby at_20) ?_
    intro v37 T37 L37 q37 X37
    obtain ⟨rfl, N37, e37⟩ := q37
    show Go _ _ _ _ (T37.setTop (mkF m 23 #[.val (.int p0), .val (.int 5), .val (.ref f5), .val (.ref u5)] [(.ref u5), (.ref u5)]))
    refine Go.acmp X37 hx (pc' := 26) (same := true) (hb hby at_23) rfl rfl (decide_eq_true rfl) (by decide) (by decide) ?_
    refine Go.aloadN X37 hx (pc' := 27) rfl (hb hby at_26) rfl rfl ?_
    have fk38 : Exa Z h0 u5 "com/example/dirbound/dirbound/cli/ExitCode" := G43.ext O0.2
    refine Go.callV X37 hx hZ hown (tw_30 hw) (tw_31 hw) (notFace_of_selects (args := #[]) (mvT hZ (tw_33 hw))) (tw_33 hw) (tw_32 hw) (by decide) (tw_34 hw) (tw_10 hw) (au_35 l Z a0 hw f0 f1 f2 f3 f4 f5 f6 f7 f8 u0 u1 u2 u3 u4 u5 u6 u7 sw kk h0 n0 Z0 O0 G) e37 fk38 (argsL := []) (rest := []) (pc' := 30) rfl (by rw [hml]; rfl) (lenOf pd_1 rfl) rfl rfl (W := 0) (Nat.le_of_eq rfl) (by decide) (by decide) (by decide) (by decide) (hb hby at_27) ?_
    intro v39 T39 L39 q39 X39
    obtain ⟨rfl, N39, e39⟩ := q39
    show Go _ _ _ _ (T39.setTop (mkF m 30 #[.val (.int p0), .val (.int 5), .val (.ref f5), .val (.ref u5)] [(.int 7)]))
    refine Go.iloadN X39 hx (pc' := 31) rfl (hb hby at_30) rfl ?_
    refine Go.callS X39 hx hZ hown (tw_37 hw) (tw_38 hw) (tw_3 hw) (tw_39 hw) (by decide) (tw_39 hw) (tw_3 hw) (au_36 l Z a0 hw h0 n0 Z0) e39 (argsL := [(.int 5)]) (rest := [(.int 7)]) (pc' := 34) rfl (by rw [hml]; rfl) (lenOf pd_4 rfl) rfl rfl (W := 1) (Nat.le_of_eq rfl) (by decide) (by decide) (by decide) (by decide) (hb hby at_31) ?_
    intro v40 T40 L40 q40 X40
    obtain ⟨rfl, N40, e40⟩ := q40
    show Go _ _ _ _ (T40.setTop (mkF m 34 #[.val (.int p0), .val (.int 5), .val (.ref f5), .val (.ref u5)] [(.int 7), (.int 7)]))
    refine Go.icmpNo X40 hx (pc' := 37) rfl (hb hby at_34) (by decide) ?_
    refine Go.iconst X40 hx (pc' := 38) rfl (hb hby at_37) (v := (1 : Int32)) rfl ?_
    refine Go.goto X40 hx (pc' := 42) (hb hby at_38) (by decide) (by decide) ?_
    refine Go.retN X40 hx hlk (t := .boolean) hret (by simp) (hb hby at_42) (by decide) (by decide) ?_
    exact ⟨rfl, (Fr.app (Fr.app (Fr.app (Fr.app (Fr.app (Fr.nil n0) N35) N36) N37) N39) N40)⟩
  · refine Go.iloadN X0 hx (pc' := 9) rfl (hb hby at_8) rfl ?_
    refine Go.callS X0 hx hZ hown (tw_1 hw) (tw_2 hw) (tw_3 hw) (tw_4 hw) (by decide) (tw_4 hw) (tw_3 hw) (au_37 l Z a0 hw f0 f1 f2 f3 f4 f5 f6 f7 f8 u0 u1 u2 u3 u4 u5 u6 u7 sw kk h0 n0 Z0 O0 G) e0 (argsL := [(.int 6)]) (rest := []) (pc' := 12) rfl (by rw [hml]; rfl) (lenOf pd_0 rfl) rfl rfl (W := 0) (Nat.le_of_eq rfl) (by decide) (by decide) (by decide) (by decide) (hb hby at_9) ?_
    intro v41 T41 L41 q41 X41
    obtain ⟨rfl, N41, e41⟩ := q41
    show Go _ _ _ _ (T41.setTop (mkF m 12 #[.val (.int p0), .val (.int 6), .unset, .unset] [(.ref f6)]))
    refine Go.astoreN X41 hx (pc' := 13) rfl (hb hby at_12) (Ls' := #[.val (.int p0), .val (.int 6), .val (.ref f6), .unset]) rfl rfl ?_
    refine Go.aloadN X41 hx (pc' := 14) rfl (hb hby at_13) rfl rfl ?_
    refine Go.callS X41 hx hZ hown (tw_8 hw) (tw_9 hw) (tw_10 hw) (tw_11 hw) (by decide) (tw_11 hw) (tw_10 hw) (au_38 l Z a0 hw f0 f1 f2 f3 f4 f5 f6 f7 f8 u0 u1 u2 u3 u4 u5 u6 u7 sw kk h0 n0 Z0 O0 G) e41 (argsL := [(.ref f6)]) (rest := []) (pc' := 17) rfl (by rw [hml]; rfl) (lenOf pd_2 rfl) rfl rfl (W := 0) (Nat.le_of_eq rfl) (by decide) (by decide) (by decide) (by decide) (hb hby at_14) ?_
    intro v42 T42 L42 q42 X42
    obtain ⟨rfl, N42, e42⟩ := q42
    show Go _ _ _ _ (T42.setTop (mkF m 17 #[.val (.int p0), .val (.int 6), .val (.ref f6), .unset] [(.ref u6)]))
    refine Go.astoreN X42 hx (pc' := 18) rfl (hb hby at_17) (Ls' := #[.val (.int p0), .val (.int 6), .val (.ref f6), .val (.ref u6)]) rfl rfl ?_
    refine Go.aloadN X42 hx (pc' := 19) rfl (hb hby at_18) rfl rfl ?_
    refine Go.iloadN X42 hx (pc' := 20) rfl (hb hby at_19) rfl ?_
    refine Go.callS X42 hx hZ hown (tw_26 hw) (tw_27 hw) (tw_3 hw) (tw_28 hw) (by decide) (tw_28 hw) (tw_3 hw) (au_40 l Z a0 hw f0 f1 f2 f3 f4 f5 f6 f7 f8 u0 u1 u2 u3 u4 u5 u6 u7 sw kk h0 n0 Z0 O0 G) e42 (argsL := [(.int 6)]) (rest := [(.ref u6)]) (pc' := 23) rfl (by rw [hml]; rfl) (lenOf pd_3 rfl) rfl rfl (W := 1) (Nat.le_of_eq rfl) (by decide) (by decide) (by decide) (by decide) (hb hby at_20) ?_
    intro v43 T43 L43 q43 X43
    obtain ⟨rfl, N43, e43⟩ := q43
    show Go _ _ _ _ (T43.setTop (mkF m 23 #[.val (.int p0), .val (.int 6), .val (.ref f6), .val (.ref u6)] [(.ref u6), (.ref u6)]))
    refine Go.acmp X43 hx (pc' := 26) (same := true) (hb hby at_23) rfl rfl (decide_eq_true rfl) (by decide) (by decide) ?_
    refine Go.aloadN X43 hx (pc' := 27) rfl (hb hby at_26) rfl rfl ?_
    have fk44 : Exa Z h0 u6 "com/example/dirbound/dirbound/cli/ExitCode" := G46.ext O0.2
    refine Go.callV X43 hx hZ hown (tw_30 hw) (tw_31 hw) (notFace_of_selects (args := #[]) (mvT hZ (tw_33 hw))) (tw_33 hw) (tw_32 hw) (by decide) (tw_34 hw) (tw_10 hw) (au_41 l Z a0 hw f0 f1 f2 f3 f4 f5 f6 f7 f8 u0 u1 u2 u3 u4 u5 u6 u7 sw kk h0 n0 Z0 O0 G) e43 fk44 (argsL := []) (rest := []) (pc' := 30) rfl (by rw [hml]; rfl) (lenOf pd_1 rfl) rfl rfl (W := 0) (Nat.le_of_eq rfl) (by decide) (by decide) (by decide) (by decide) (hb hby at_27) ?_
    intro v45 T45 L45 q45 X45
    obtain ⟨rfl, N45, e45⟩ := q45
    show Go _ _ _ _ (T45.setTop (mkF m 30 #[.val (.int p0), .val (.int 6), .val (.ref f6), .val (.ref u6)] [(.int 8)]))
    refine Go.iloadN X45 hx (pc' := 31) rfl (hb hby at_30) rfl ?_
    refine Go.callS X45 hx hZ hown (tw_37 hw) (tw_38 hw) (tw_3 hw) (tw_39 hw) (by decide) (tw_39 hw) (tw_3 hw) (au_42 l Z a0 hw h0 n0 Z0) e45 (argsL := [(.int 6)]) (rest := [(.int 8)]) (pc' := 34) rfl (by rw [hml]; rfl) (lenOf pd_4 rfl) rfl rfl (W := 1) (Nat.le_of_eq rfl) (by decide) (by decide) (by decide) (by decide) (hb hby at_31) ?_
    intro v46 T46 L46 q46 X46
    obtain ⟨rfl, N46, e46⟩ := q46
    show Go _ _ _ _ (T46.setTop (mkF m 34 #[.val (.int p0), .val (.int 6), .val (.ref f6), .val (.ref u6)] [(.int 8), (.int 8)]))
    refine Go.icmpNo X46 hx (pc' := 37) rfl (hb hby at_34) (by decide) ?_
    refine Go.iconst X46 hx (pc' := 38) rfl (hb hby at_37) (v := (1 : Int32)) rfl ?_
    refine Go.goto X46 hx (pc' := 42) (hb hby at_38) (by decide) (by decide) ?_
    refine Go.retN X46 hx hlk (t := .boolean) hret (by simp) (hb hby at_42) (by decide) (by decide) ?_
    exact ⟨rfl, (Fr.app (Fr.app (Fr.app (Fr.app (Fr.app (Fr.nil n0) N41) N42) N43) N45) N46)⟩
  · refine Go.iloadN X0 hx (pc' := 9) rfl (hb hby at_8) rfl ?_
    refine Go.callS X0 hx hZ hown (tw_1 hw) (tw_2 hw) (tw_3 hw) (tw_4 hw) (by decide) (tw_4 hw) (tw_3 hw) (au_43 l Z a0 hw f0 f1 f2 f3 f4 f5 f6 f7 f8 u0 u1 u2 u3 u4 u5 u6 u7 sw kk h0 n0 Z0 O0 G) e0 (argsL := [(.int 7)]) (rest := []) (pc' := 12) rfl (by rw [hml]; rfl) (lenOf pd_0 rfl) rfl rfl (W := 0) (Nat.le_of_eq rfl) (by decide) (by decide) (by decide) (by decide) (hb hby at_9) ?_
    intro v47 T47 L47 q47 X47
    obtain ⟨rfl, N47, e47⟩ := q47
    show Go _ _ _ _ (T47.setTop (mkF m 12 #[.val (.int p0), .val (.int 7), .unset, .unset] [(.ref f7)]))
    refine Go.astoreN X47 hx (pc' := 13) rfl (hb hby at_12) (Ls' := #[.val (.int p0), .val (.int 7), .val (.ref f7), .unset]) rfl rfl ?_
    refine Go.aloadN X47 hx (pc' := 14) rfl (hb hby at_13) rfl rfl ?_
    refine Go.callS X47 hx hZ hown (tw_8 hw) (tw_9 hw) (tw_10 hw) (tw_11 hw) (by decide) (tw_11 hw) (tw_10 hw) (au_44 l Z a0 hw f0 f1 f2 f3 f4 f5 f6 f7 f8 u0 u1 u2 u3 u4 u5 u6 u7 sw kk h0 n0 Z0 O0 G) e47 (argsL := [(.ref f7)]) (rest := []) (pc' := 17) rfl (by rw [hml]; rfl) (lenOf pd_2 rfl) rfl rfl (W := 0) (Nat.le_of_eq rfl) (by decide) (by decide) (by decide) (by decide) (hb hby at_14) ?_
    intro v48 T48 L48 q48 X48
    obtain ⟨rfl, N48, e48⟩ := q48
    show Go _ _ _ _ (T48.setTop (mkF m 17 #[.val (.int p0), .val (.int 7), .val (.ref f7), .unset] [(.ref u7)]))
    refine Go.astoreN X48 hx (pc' := 18) rfl (hb hby at_17) (Ls' := #[.val (.int p0), .val (.int 7), .val (.ref f7), .val (.ref u7)]) rfl rfl ?_
    refine Go.aloadN X48 hx (pc' := 19) rfl (hb hby at_18) rfl rfl ?_
    refine Go.iloadN X48 hx (pc' := 20) rfl (hb hby at_19) rfl ?_
    refine Go.callS X48 hx hZ hown (tw_26 hw) (tw_27 hw) (tw_3 hw) (tw_28 hw) (by decide) (tw_28 hw) (tw_3 hw) (au_46 l Z a0 hw f0 f1 f2 f3 f4 f5 f6 f7 f8 u0 u1 u2 u3 u4 u5 u6 u7 sw kk h0 n0 Z0 O0 G) e48 (argsL := [(.int 7)]) (rest := [(.ref u7)]) (pc' := 23) rfl (by rw [hml]; rfl) (lenOf pd_3 rfl) rfl rfl (W := 1) (Nat.le_of_eq rfl) (by decide) (by decide) (by decide) (by decide) (hb hby at_20) ?_
    intro v49 T49 L49 q49 X49
    obtain ⟨rfl, N49, e49⟩ := q49
    show Go _ _ _ _ (T49.setTop (mkF m 23 #[.val (.int p0), .val (.int 7), .val (.ref f7), .val (.ref u7)] [(.ref u7), (.ref u7)]))
    refine Go.acmp X49 hx (pc' := 26) (same := true) (hb hby at_23) rfl rfl (decide_eq_true rfl) (by decide) (by decide) ?_
    refine Go.aloadN X49 hx (pc' := 27) rfl (hb hby at_26) rfl rfl ?_
    have fk50 : Exa Z h0 u7 "com/example/dirbound/dirbound/cli/ExitCode" := G49.ext O0.2
    refine Go.callV X49 hx hZ hown (tw_30 hw) (tw_31 hw) (notFace_of_selects (args := #[]) (mvT hZ (tw_33 hw))) (tw_33 hw) (tw_32 hw) (by decide) (tw_34 hw) (tw_10 hw) (au_47 l Z a0 hw f0 f1 f2 f3 f4 f5 f6 f7 f8 u0 u1 u2 u3 u4 u5 u6 u7 sw kk h0 n0 Z0 O0 G) e49 fk50 (argsL := []) (rest := []) (pc' := 30) rfl (by rw [hml]; rfl) (lenOf pd_1 rfl) rfl rfl (W := 0) (Nat.le_of_eq rfl) (by decide) (by decide) (by decide) (by decide) (hb hby at_27) ?_
    intro v51 T51 L51 q51 X51
    obtain ⟨rfl, N51, e51⟩ := q51
    show Go _ _ _ _ (T51.setTop (mkF m 30 #[.val (.int p0), .val (.int 7), .val (.ref f7), .val (.ref u7)] [(.int 1)]))
    refine Go.iloadN X51 hx (pc' := 31) rfl (hb hby at_30) rfl ?_
    refine Go.callS X51 hx hZ hown (tw_37 hw) (tw_38 hw) (tw_3 hw) (tw_39 hw) (by decide) (tw_39 hw) (tw_3 hw) (au_48 l Z a0 hw h0 n0 Z0) e51 (argsL := [(.int 7)]) (rest := [(.int 1)]) (pc' := 34) rfl (by rw [hml]; rfl) (lenOf pd_4 rfl) rfl rfl (W := 1) (Nat.le_of_eq rfl) (by decide) (by decide) (by decide) (by decide) (hb hby at_31) ?_
    intro v52 T52 L52 q52 X52
    obtain ⟨rfl, N52, e52⟩ := q52
    show Go _ _ _ _ (T52.setTop (mkF m 34 #[.val (.int p0), .val (.int 7), .val (.ref f7), .val (.ref u7)] [(.int 1), (.int 1)]))
    refine Go.icmpNo X52 hx (pc' := 37) rfl (hb hby at_34) (by decide) ?_
    refine Go.iconst X52 hx (pc' := 38) rfl (hb hby at_37) (v := (1 : Int32)) rfl ?_
    refine Go.goto X52 hx (pc' := 42) (hb hby at_38) (by decide) (by decide) ?_
    refine Go.retN X52 hx hlk (t := .boolean) hret (by simp) (hb hby at_42) (by decide) (by decide) ?_
    exact ⟨rfl, (Fr.app (Fr.app (Fr.app (Fr.app (Fr.app (Fr.nil n0) N47) N48) N49) N51) N52)⟩
  · refine Go.iloadN X0 hx (pc' := 9) rfl (hb hby at_8) rfl ?_
    refine Go.callS X0 hx hZ hown (tw_1 hw) (tw_2 hw) (tw_3 hw) (tw_4 hw) (by decide) (tw_4 hw) (tw_3 hw) (au_49 l Z a0 hw f0 f1 f2 f3 f4 f5 f6 f7 f8 u0 u1 u2 u3 u4 u5 u6 u7 sw kk h0 n0 Z0 O0 G) e0 (argsL := [(.int 8)]) (rest := []) (pc' := 12) rfl (by rw [hml]; rfl) (lenOf pd_0 rfl) rfl rfl (W := 0) (Nat.le_of_eq rfl) (by decide) (by decide) (by decide) (by decide) (hb hby at_9) ?_
    intro v53 T53 L53 q53 X53
    obtain ⟨rfl, N53, e53⟩ := q53
    show Go _ _ _ _ (T53.setTop (mkF m 12 #[.val (.int p0), .val (.int 8), .unset, .unset] [(.ref f8)]))
    refine Go.astoreN X53 hx (pc' := 13) rfl (hb hby at_12) (Ls' := #[.val (.int p0), .val (.int 8), .val (.ref f8), .unset]) rfl rfl ?_
    refine Go.aloadN X53 hx (pc' := 14) rfl (hb hby at_13) rfl rfl ?_
    refine Go.callS X53 hx hZ hown (tw_8 hw) (tw_9 hw) (tw_10 hw) (tw_11 hw) (by decide) (tw_11 hw) (tw_10 hw) (au_50 l Z a0 hw f0 f1 f2 f3 f4 f5 f6 f7 f8 u0 u1 u2 u3 u4 u5 u6 u7 sw kk h0 n0 Z0 O0 G) e53 (argsL := [(.ref f8)]) (rest := []) (pc' := 17) rfl (by rw [hml]; rfl) (lenOf pd_2 rfl) rfl rfl (W := 0) (Nat.le_of_eq rfl) (by decide) (by decide) (by decide) (by decide) (hb hby at_14) ?_
    intro v54 T54 L54 q54 X54
    obtain ⟨rfl, N54, e54⟩ := q54
    show Go _ _ _ _ (T54.setTop (mkF m 17 #[.val (.int p0), .val (.int 8), .val (.ref f8), .unset] [(.ref u7)]))
    refine Go.astoreN X54 hx (pc' := 18) rfl (hb hby at_17) (Ls' := #[.val (.int p0), .val (.int 8), .val (.ref f8), .val (.ref u7)]) rfl rfl ?_
    refine Go.aloadN X54 hx (pc' := 19) rfl (hb hby at_18) rfl rfl ?_
    refine Go.iloadN X54 hx (pc' := 20) rfl (hb hby at_19) rfl ?_
    refine Go.callS X54 hx hZ hown (tw_26 hw) (tw_27 hw) (tw_3 hw) (tw_28 hw) (by decide) (tw_28 hw) (tw_3 hw) (au_52 l Z a0 hw f0 f1 f2 f3 f4 f5 f6 f7 f8 u0 u1 u2 u3 u4 u5 u6 u7 sw kk h0 n0 Z0 O0 G) e54 (argsL := [(.int 8)]) (rest := [(.ref u7)]) (pc' := 23) rfl (by rw [hml]; rfl) (lenOf pd_3 rfl) rfl rfl (W := 1) (Nat.le_of_eq rfl) (by decide) (by decide) (by decide) (by decide) (hb hby at_20) ?_
    intro v55 T55 L55 q55 X55
    obtain ⟨rfl, N55, e55⟩ := q55
    show Go _ _ _ _ (T55.setTop (mkF m 23 #[.val (.int p0), .val (.int 8), .val (.ref f8), .val (.ref u7)] [(.ref u7), (.ref u7)]))
    refine Go.acmp X55 hx (pc' := 26) (same := true) (hb hby at_23) rfl rfl (decide_eq_true rfl) (by decide) (by decide) ?_
    refine Go.aloadN X55 hx (pc' := 27) rfl (hb hby at_26) rfl rfl ?_
    have fk56 : Exa Z h0 u7 "com/example/dirbound/dirbound/cli/ExitCode" := G49.ext O0.2
    refine Go.callV X55 hx hZ hown (tw_30 hw) (tw_31 hw) (notFace_of_selects (args := #[]) (mvT hZ (tw_33 hw))) (tw_33 hw) (tw_32 hw) (by decide) (tw_34 hw) (tw_10 hw) (au_47 l Z a0 hw f0 f1 f2 f3 f4 f5 f6 f7 f8 u0 u1 u2 u3 u4 u5 u6 u7 sw kk h0 n0 Z0 O0 G) e55 fk56 (argsL := []) (rest := []) (pc' := 30) rfl (by rw [hml]; rfl) (lenOf pd_1 rfl) rfl rfl (W := 0) (Nat.le_of_eq rfl) (by decide) (by decide) (by decide) (by decide) (hb hby at_27) ?_
    intro v57 T57 L57 q57 X57
    obtain ⟨rfl, N57, e57⟩ := q57
    show Go _ _ _ _ (T57.setTop (mkF m 30 #[.val (.int p0), .val (.int 8), .val (.ref f8), .val (.ref u7)] [(.int 1)]))
    refine Go.iloadN X57 hx (pc' := 31) rfl (hb hby at_30) rfl ?_
    refine Go.callS X57 hx hZ hown (tw_37 hw) (tw_38 hw) (tw_3 hw) (tw_39 hw) (by decide) (tw_39 hw) (tw_3 hw) (au_53 l Z a0 hw h0 n0 Z0) e57 (argsL := [(.int 8)]) (rest := [(.int 1)]) (pc' := 34) rfl (by rw [hml]; rfl) (lenOf pd_4 rfl) rfl rfl (W := 1) (Nat.le_of_eq rfl) (by decide) (by decide) (by decide) (by decide) (hb hby at_31) ?_
    intro v58 T58 L58 q58 X58
    obtain ⟨rfl, N58, e58⟩ := q58
    show Go _ _ _ _ (T58.setTop (mkF m 34 #[.val (.int p0), .val (.int 8), .val (.ref f8), .val (.ref u7)] [(.int 1), (.int 1)]))
    refine Go.icmpNo X58 hx (pc' := 37) rfl (hb hby at_34) (by decide) ?_
    refine Go.iconst X58 hx (pc' := 38) rfl (hb hby at_37) (v := (1 : Int32)) rfl ?_
    refine Go.goto X58 hx (pc' := 42) (hb hby at_38) (by decide) (by decide) ?_
    refine Go.retN X58 hx hlk (t := .boolean) hret (by simp) (hb hby at_42) (by decide) (by decide) ?_
    exact ⟨rfl, (Fr.app (Fr.app (Fr.app (Fr.app (Fr.app (Fr.nil n0) N53) N54) N55) N57) N58)⟩
theorem own_size {n : Nat} {k : Int32} (h : n < 2 ^ 31) (e : n.toInt32 = k) : (n : Int) = k.toInt := by
  subst e
  rw [Int32.toInt_ofNat_of_lt h] <;> rfl
theorem own_sw {args : Array Value} {s : State} {t : Term} {a : Addr} {cl : Cell} (ev : ∀ idx, t.eval args s none idx s = some (.ref a)) (A : Arr s s.heap a cl .int) (hz : cl.slots.size = 9) (h : ∀ i, i < cl.slots.size → (Jvm.Cond.eq (.op1 .i2l (.elem t (.index 0))) (.op2 .ladd (.op1 .i2l (.index 0)) (.long 1))).value args s none s [i] = some true) : ∀ i : Nat, i < 9 → cl.slots[i]? = some (.int (Int32.ofNat (i + 1))) := by
  intro i hi
  have q := h i (by omega)
  obtain ⟨x, y, h1, h2, -, -⟩ := cmp_v (Or.inl q)
  obtain ⟨u, h3, h4⟩ := op1_v h1
  obtain ⟨u1, u2, h5, h6, h7⟩ := op2_v h2
  obtain ⟨u3, h8, h9⟩ := op1_v h5
  have hix : (Term.index 0).eval args s none [i] s = some (.int i.toInt32) := rfl
  cases hix.symm.trans h8
  cases (long_at (1 : Int64)).symm.trans h6
  have hel := (elem_in h3 (ev [i]) hix A.1).2
  have hi2 : i.toInt32.toNatClampNeg = i := by
    rcases (by omega : i = 0 ∨ i = 1 ∨ i = 2 ∨ i = 3 ∨ i = 4 ∨ i = 5 ∨ i = 6 ∨ i = 7 ∨ i = 8) with rfl | rfl | rfl | rfl | rfl | rfl | rfl | rfl | rfl <;> rfl
  rw [hi2] at hel
  cases u with
  | int w =>
    simp only [Unary.apply, Option.some.injEq] at h4 h9
    subst h4 h9
    simp only [Binary.apply, Option.some.injEq] at h7
    subst h7
    have e := eq_L h1 h2
    rw [q] at e
    have e2 : w.toInt64 = i.toInt32.toInt64 + 1 := of_decide_eq_true (Option.some.inj e).symm
    have e3 : w.toInt = (i.toInt32.toInt64 + 1).toInt := by rw [← e2, c_i2l]
    rw [hel]
    have e4 : w = Int32.ofNat (i + 1) := by
      apply Int32.toInt_inj.mp
      rw [e3]
      rcases (by omega : i = 0 ∨ i = 1 ∨ i = 2 ∨ i = 3 ∨ i = 4 ∨ i = 5 ∨ i = 6 ∨ i = 7 ∨ i = 8) with rfl | rfl | rfl | rfl | rfl | rfl | rfl | rfl | rfl <;> decide
    rw [e4]
  | _ => simp [Unary.apply] at h4
set_option maxRecDepth 65536 in
set_option maxHeartbeats 4000000 in
theorem comes_1 {Post : Tables → Env → Array Value → State → Outcome → State → Prop} (hpost : ∀ tb e args s v u, (limb_1_1.after args s (.returned v) u = true ∧ limb_1_2.after args s (.returned v) u = true ∧ True) → FrameEnd s (.returned v) u (Jvm.fieldLocs frame_1_writes args s ++ Jvm.arrayLocs frame_1_arrays args s ++ Jvm.staticLocs frame_1_statics s) 0 0 → Post tb e args s (.returned v) u) :
    ArmFor flags0 classFile x code maxLocals ret World_1 tables_1 room_1 Calls_1 rest_1 Pre_1 Post := by
  intro l hfl _ _ p e ha hc hk s m args below hf hA hF happ hP
  obtain ⟨hcalls, hrest, hpre⟩ := hP
  obtain ⟨-, -, -, hnamed, -, -, -, hat⟩ := (Spec.applies_iff hf).mp happ
  obtain ⟨hg, hn⟩ := and_e (Cond.before_iff.mp (show (Jvm.Cond.and given_1 narrow_1).before args s = true from hpre))
  obtain ⟨g1, g2⟩ := and_e hg
  obtain ⟨w0, rfl⟩ : ∃ w0 : Value, args = #[w0] := by
    have hs : args.size = 1 := by simpa [Cond.value, given_1] using g1
    obtain ⟨L⟩ := args
    match L, hs with
    | [w0], _ => exact ⟨w0, rfl⟩
  have hw := fun d (hd : d ∈ tables_1) => atoms_spec (ws := Jvm.Cond.code x code maxLocals ret :: tables_1) hat d (List.mem_cons_of_mem _ hd)
  have hfit : Fit s := fun {y c} hc i hi => by
    obtain ⟨ha, rfl⟩ := Array.getElem?_eq_some_iff.mp hc
    have q := List.all_eq_true.mp ((Array.all_eq_true_iff_forall_mem.mp hF) _ (Array.getElem_mem ha)) i (List.mem_range.mpr hi)
    simpa [Array.getElem?_eq_getElem hi] using q
  obtain ⟨i0, ei0⟩ := is_v g2
  obtain rfl : w0 = (.int i0) := Option.some.inj ei0
  obtain ⟨g3, g4⟩ := and_e hn
  obtain ⟨g5, g6⟩ := and_e g4
  obtain ⟨g7, g8⟩ := and_e g6
  obtain ⟨g9, g10⟩ := and_e g8
  obtain ⟨g11, g12⟩ := and_e g10
  obtain ⟨g13, g14⟩ := and_e g12
  obtain ⟨g15, g16⟩ := and_e g14
  obtain ⟨g17, g18⟩ := and_e g16
  obtain ⟨g19, g20⟩ := and_e g18
  obtain ⟨g21, g22⟩ := and_e g20
  obtain ⟨g23, g24⟩ := and_e g22
  obtain ⟨g25, g26⟩ := and_e g24
  obtain ⟨g27, g28⟩ := and_e g26
  obtain ⟨g29, g30⟩ := and_e g28
  obtain ⟨g31, g32⟩ := and_e g30
  obtain ⟨g33, g34⟩ := and_e g32
  obtain ⟨g35, g36⟩ := and_e g34
  obtain ⟨g37, g38⟩ := and_e g36
  obtain ⟨g39, g40⟩ := and_e g38
  obtain ⟨g41, g42⟩ := and_e g40
  obtain ⟨g43, g44⟩ := and_e g42
  obtain ⟨g45, g46⟩ := and_e g44
  obtain ⟨g47, g48⟩ := and_e g46
  obtain ⟨g49, g50⟩ := and_e g48
  obtain ⟨g51, g52⟩ := and_e g50
  obtain ⟨g53, g54⟩ := and_e g52
  obtain ⟨g55, g56⟩ := and_e g54
  obtain ⟨g57, g58⟩ := and_e g56
  obtain ⟨g59, g60⟩ := and_e g58
  obtain ⟨g61, g62⟩ := and_e g60
  obtain ⟨g63, g64⟩ := and_e g62
  obtain ⟨g65, g66⟩ := and_e g64
  obtain ⟨g67, g68⟩ := and_e g66
  obtain ⟨g69, g70⟩ := and_e g68
  obtain ⟨g71, g72⟩ := and_e g70
  obtain ⟨g73, g74⟩ := and_e g72
  obtain ⟨a_0, ev0⟩ := exa_v g3
  have Sx0 : Sta s s.heap "com/example/dirbound/dirbound/DirectoryException$Failure" "INVALID_NAME" "Lcom/example/dirbound/dirbound/DirectoryException$Failure;" (.ref a_0) := Sta.start ev0 (Or.inr ⟨(tw_6 hw), (tw_7 hw)⟩)
  obtain ⟨a_1, ev1⟩ := arr_v g5
  have Sx1 : Sta s s.heap "com/example/dirbound/dirbound/cli/ExitCode$1" "$SwitchMap$com$example$dirbound$dirbound$DirectoryException$Failure" "[I" (.ref a_1) := Sta.start ev1 (Or.inr ⟨(tw_13 hw), (tw_14 hw)⟩)
  obtain ⟨a_2, ev2⟩ := exa_v g11
  have Sx2 : Sta s s.heap "com/example/dirbound/dirbound/cli/ExitCode" "USAGE" "Lcom/example/dirbound/dirbound/cli/ExitCode;" (.ref a_2) := Sta.start ev2 (Or.inr ⟨(tw_10 hw), (tw_25 hw)⟩)
  obtain ⟨a_3, ev3⟩ := exa_v g15
  have Sx3 : Sta s s.heap "com/example/dirbound/dirbound/DirectoryException$Failure" "ALREADY_BOUND" "Lcom/example/dirbound/dirbound/DirectoryException$Failure;" (.ref a_3) := Sta.start ev3 (Or.inr ⟨(tw_6 hw), (tw_41 hw)⟩)
  obtain ⟨a_4, ev4⟩ := exa_v g19
  have Sx4 : Sta s s.heap "com/example/dirbound/dirbound/cli/ExitCode" "ALREADY_BOUND" "Lcom/example/dirbound/dirbound/cli/ExitCode;" (.ref a_4) := Sta.start ev4 (Or.inr ⟨(tw_10 hw), (tw_43 hw)⟩)
  obtain ⟨a_5, ev5⟩ := exa_v g23
  have Sx5 : Sta s s.heap "com/example/dirbound/dirbound/DirectoryException$Failure" "NOT_FOUND" "Lcom/example/dirbound/dirbound/DirectoryException$Failure;" (.ref a_5) := Sta.start ev5 (Or.inr ⟨(tw_6 hw), (tw_46 hw)⟩)
  obtain ⟨a_6, ev6⟩ := exa_v g27
  have Sx6 : Sta s s.heap "com/example/dirbound/dirbound/cli/ExitCode" "NOT_FOUND" "Lcom/example/dirbound/dirbound/cli/ExitCode;" (.ref a_6) := Sta.start ev6 (Or.inr ⟨(tw_10 hw), (tw_48 hw)⟩)
  obtain ⟨a_7, ev7⟩ := exa_v g31
  have Sx7 : Sta s s.heap "com/example/dirbound/dirbound/DirectoryException$Failure" "POLICY" "Lcom/example/dirbound/dirbound/DirectoryException$Failure;" (.ref a_7) := Sta.start ev7 (Or.inr ⟨(tw_6 hw), (tw_51 hw)⟩)
  obtain ⟨a_8, ev8⟩ := exa_v g35
  have Sx8 : Sta s s.heap "com/example/dirbound/dirbound/cli/ExitCode" "POLICY" "Lcom/example/dirbound/dirbound/cli/ExitCode;" (.ref a_8) := Sta.start ev8 (Or.inr ⟨(tw_10 hw), (tw_53 hw)⟩)
  obtain ⟨a_9, ev9⟩ := exa_v g39
  have Sx9 : Sta s s.heap "com/example/dirbound/dirbound/DirectoryException$Failure" "FACTORY" "Lcom/example/dirbound/dirbound/DirectoryException$Failure;" (.ref a_9) := Sta.start ev9 (Or.inr ⟨(tw_6 hw), (tw_56 hw)⟩)
  obtain ⟨a_10, ev10⟩ := exa_v g43
  have Sx10 : Sta s s.heap "com/example/dirbound/dirbound/cli/ExitCode" "FAILURE" "Lcom/example/dirbound/dirbound/cli/ExitCode;" (.ref a_10) := Sta.start ev10 (Or.inr ⟨(tw_10 hw), (tw_58 hw)⟩)
  obtain ⟨a_11, ev11⟩ := exa_v g47
  have Sx11 : Sta s s.heap "com/example/dirbound/dirbound/DirectoryException$Failure" "UNREACHABLE" "Lcom/example/dirbound/dirbound/DirectoryException$Failure;" (.ref a_11) := Sta.start ev11 (Or.inr ⟨(tw_6 hw), (tw_61 hw)⟩)
  obtain ⟨a_12, ev12⟩ := exa_v g51
  have Sx12 : Sta s s.heap "com/example/dirbound/dirbound/cli/ExitCode" "UNREACHABLE" "Lcom/example/dirbound/dirbound/cli/ExitCode;" (.ref a_12) := Sta.start ev12 (Or.inr ⟨(tw_10 hw), (tw_63 hw)⟩)
  obtain ⟨a_13, ev13⟩ := exa_v g55
  have Sx13 : Sta s s.heap "com/example/dirbound/dirbound/DirectoryException$Failure" "UNEXPECTED" "Lcom/example/dirbound/dirbound/DirectoryException$Failure;" (.ref a_13) := Sta.start ev13 (Or.inr ⟨(tw_6 hw), (tw_66 hw)⟩)
  obtain ⟨a_14, ev14⟩ := exa_v g59
  have Sx14 : Sta s s.heap "com/example/dirbound/dirbound/DirectoryException$Failure" "REFUSED" "Lcom/example/dirbound/dirbound/DirectoryException$Failure;" (.ref a_14) := Sta.start ev14 (Or.inr ⟨(tw_6 hw), (tw_68 hw)⟩)
  obtain ⟨a_15, ev15⟩ := exa_v g63
  have Sx15 : Sta s s.heap "com/example/dirbound/dirbound/cli/ExitCode" "REFUSED" "Lcom/example/dirbound/dirbound/cli/ExitCode;" (.ref a_15) := Sta.start ev15 (Or.inr ⟨(tw_10 hw), (tw_70 hw)⟩)
  obtain ⟨a_16, ev16⟩ := exa_v g67
  have Sx16 : Sta s s.heap "com/example/dirbound/dirbound/DirectoryException$Failure" "MALFORMED" "Lcom/example/dirbound/dirbound/DirectoryException$Failure;" (.ref a_16) := Sta.start ev16 (Or.inr ⟨(tw_6 hw), (tw_73 hw)⟩)
  obtain ⟨a_17, ev17⟩ := exa_v g71
  have Sx17 : Sta s s.heap "com/example/dirbound/dirbound/cli/ExitCode" "MALFORMED" "Lcom/example/dirbound/dirbound/cli/ExitCode;" (.ref a_17) := Sta.start ev17 (Or.inr ⟨(tw_10 hw), (tw_75 hw)⟩)
  have Ex75 := Exa.start ev0 g3
  obtain ⟨clAr76, Ar76⟩ := Arr.start ev1 g5
  have Ln77 := own_len ev1 Ar76 g7
  have Fx78 : Fld s s.heap a_0 "java/lang/Enum" "ordinal" "I" (.int (0 : Int32)) := Fld.start ((fld_at ev0).symm.trans (own_eqI g9))
  have Ex79 := Exa.start ev2 g11
  have Fx80 : Fld s s.heap a_2 "com/example/dirbound/dirbound/cli/ExitCode" "status" "I" (.int (2 : Int32)) := Fld.start ((fld_at ev2).symm.trans (own_eqI g13))
  have Ex81 := Exa.start ev3 g15
  have Fx82 : Fld s s.heap a_3 "java/lang/Enum" "ordinal" "I" (.int (3 : Int32)) := Fld.start ((fld_at ev3).symm.trans (own_eqI g17))
  have Ex83 := Exa.start ev4 g19
  have Fx84 : Fld s s.heap a_4 "com/example/dirbound/dirbound/cli/ExitCode" "status" "I" (.int (5 : Int32)) := Fld.start ((fld_at ev4).symm.trans (own_eqI g21))
  have Ex85 := Exa.start ev5 g23
  have Fx86 : Fld s s.heap a_5 "java/lang/Enum" "ordinal" "I" (.int (2 : Int32)) := Fld.start ((fld_at ev5).symm.trans (own_eqI g25))
  have Ex87 := Exa.start ev6 g27
  have Fx88 : Fld s s.heap a_6 "com/example/dirbound/dirbound/cli/ExitCode" "status" "I" (.int (4 : Int32)) := Fld.start ((fld_at ev6).symm.trans (own_eqI g29))
  have Ex89 := Exa.start ev7 g31
  have Fx90 : Fld s s.heap a_7 "java/lang/Enum" "ordinal" "I" (.int (1 : Int32)) := Fld.start ((fld_at ev7).symm.trans (own_eqI g33))
  have Ex91 := Exa.start ev8 g35
  have Fx92 : Fld s s.heap a_8 "com/example/dirbound/dirbound/cli/ExitCode" "status" "I" (.int (3 : Int32)) := Fld.start ((fld_at ev8).symm.trans (own_eqI g37))
  have Ex93 := Exa.start ev9 g39
  have Fx94 : Fld s s.heap a_9 "java/lang/Enum" "ordinal" "I" (.int (7 : Int32)) := Fld.start ((fld_at ev9).symm.trans (own_eqI g41))
  have Ex95 := Exa.start ev10 g43
  have Fx96 : Fld s s.heap a_10 "com/example/dirbound/dirbound/cli/ExitCode" "status" "I" (.int (1 : Int32)) := Fld.start ((fld_at ev10).symm.trans (own_eqI g45))
  have Ex97 := Exa.start ev11 g47
  have Fx98 : Fld s s.heap a_11 "java/lang/Enum" "ordinal" "I" (.int (4 : Int32)) := Fld.start ((fld_at ev11).symm.trans (own_eqI g49))
  have Ex99 := Exa.start ev12 g51
  have Fx100 : Fld s s.heap a_12 "com/example/dirbound/dirbound/cli/ExitCode" "status" "I" (.int (6 : Int32)) := Fld.start ((fld_at ev12).symm.trans (own_eqI g53))
  have Ex101 := Exa.start ev13 g55
  have Fx102 : Fld s s.heap a_13 "java/lang/Enum" "ordinal" "I" (.int (8 : Int32)) := Fld.start ((fld_at ev13).symm.trans (own_eqI g57))
  have Ex103 := Exa.start ev14 g59
  have Fx104 : Fld s s.heap a_14 "java/lang/Enum" "ordinal" "I" (.int (6 : Int32)) := Fld.start ((fld_at ev14).symm.trans (own_eqI g61))
  have Ex105 := Exa.start ev15 g63
  have Fx106 : Fld s s.heap a_15 "com/example/dirbound/dirbound/cli/ExitCode" "status" "I" (.int (8 : Int32)) := Fld.start ((fld_at ev15).symm.trans (own_eqI g65))
  have Ex107 := Exa.start ev16 g67
  have Fx108 : Fld s s.heap a_16 "java/lang/Enum" "ordinal" "I" (.int (5 : Int32)) := Fld.start ((fld_at ev16).symm.trans (own_eqI g69))
  have Ex109 := Exa.start ev17 g71
  have Fx110 : Fld s s.heap a_17 "com/example/dirbound/dirbound/cli/ExitCode" "status" "I" (.int (7 : Int32)) := Fld.start ((fld_at ev17).symm.trans (own_eqI g73))
  have Al111 := own_all ev1 Ar76 g74
  have hz : clAr76.slots.size = 9 := by
    have := own_size Ln77.1 Ln77.2; have e9 : (9 : Int32).toInt = 9 := rfl; omega
  have hA : ∀ i : Nat, i < 9 → clAr76.slots[i]? = some (.int (Int32.ofNat (i + 1))) := own_sw (fun _ => ev1) Ar76 hz Al111
  have V : Arv s s.heap a_1 clAr76.cls .int (9 : Int32) [(.int (1 : Int32)), (.int (2 : Int32)), (.int (3 : Int32)), (.int (4 : Int32)), (.int (5 : Int32)), (.int (6 : Int32)), (.int (7 : Int32)), (.int (8 : Int32)), (.int (9 : Int32))] (.int (0 : Int32)) := Arv.start hfit Ar76 Ln77.1 Ln77.2 (by decide) rfl ⟨hA 0 (by decide), hA 1 (by decide), hA 2 (by decide), hA 3 (by decide), hA 4 (by decide), hA 5 (by decide), hA 6 (by decide), hA 7 (by decide), hA 8 (by decide), trivial⟩
  have G : Glob s a_0 a_7 a_5 a_3 a_11 a_16 a_14 a_9 a_13 a_2 a_8 a_6 a_4 a_12 a_17 a_15 a_10 a_1 clAr76.cls := ⟨Sx0, Ex75, Fx78, Sx7, Ex89, Fx90, Sx5, Ex85, Fx86, Sx3, Ex81, Fx82, Sx11, Ex97, Fx98, Sx16, Ex107, Fx108, Sx14, Ex103, Fx104, Sx9, Ex93, Fx94, Sx13, Ex101, Fx102, Sx2, Ex79, Fx80, Sx8, Ex91, Fx92, Sx6, Ex87, Fx88, Sx4, Ex83, Fx84, Sx12, Ex99, Fx100, Sx17, Ex109, Fx110, Sx15, Ex105, Fx106, Sx10, Ex95, Fx96, Sx1, V⟩
  obtain ⟨n, o, h1, h2, h3, _, L, rfl, ⟨rfl, N⟩, hq⟩ := (rm0 l s _ hw i0 a_0 a_7 a_5 a_3 a_11 a_16 a_14 a_9 a_13 a_2 a_8 a_6 a_4 a_12 a_17 a_15 a_10 a_1 clAr76.cls s.heap s.heap.size (Nat.le_refl _) (Old.start s) G) tables_1 p e ha hc hk s m _ below hf ((Spec.applies_iff_loose hf).mp happ).1 ⟨rfl, State.Warmed39.refl s, rfl⟩ trivial
  refine ⟨n, _, h1, h2, h3, hpost _ _ _ _ _ _ ⟨Cond.after_iff.mpr rfl, Cond.after_iff.mpr (eq_i res_at (Term.int_eval (1)) rfl), trivial⟩ ⟨hq.1, hq.2.1, (hq.2.2.sift fun y hy => Or.inr (N y hy)).mono (by decide) (by decide)⟩⟩
theorem main_1_1 : Claimed_1_1 := comes_1 fun _ _ _ _ _ _ h hF => ⟨h.1, hF⟩
theorem main_1_2 : Claimed_1_2 := comes_1 fun _ _ _ _ _ _ h hF => ⟨h.2.1, hF⟩
end Jvm.Pilot.@@N@@
namespace Jvm.Pilot.@@N@@
open Jvm Jvm.ClassFile Sem Op Lib Jvm.Free Jvm.Stand Jvm.Pilot.@@N@@.Jvm.D
/-! MADE BY PROGRAM (witnessworld.py) out of the Statement's table words and the real class files: 14 classes; the members and pool entries that the words name. The judged class is class 1, her method 1. -/
namespace start1
open Jvm.ClassFile
def u (s : String) : CpInfo := .utf8 (stringToUtf16 s)
/-- a pool by its gaps: so many unusable entries, then the entry; so many at the end -/
def gap : Nat → List CpInfo → List CpInfo
  | 0, r => r
  | n + 1, r => .unusable :: gap n r
def poolList (es : List (Nat × CpInfo)) (last : Nat) : List CpInfo := es.foldr (fun e r => gap e.1 (e.2 :: r)) (gap last [])
def pool (es : List (Nat × CpInfo)) (last : Nat) : Array CpInfo := ⟨poolList es last⟩
def fileOf (pool : Array CpInfo) (this : Nat) (attrs : Array Attribute := #[]) (ms : Array MethodInfo := #[]) (fl : Nat := 33) (sup : Nat := 0) (ifs : Array Nat := #[]) (fds : Array FieldInfo := #[]) : ClassFile where
  minorVersion := 0
  majorVersion := 65
  constantPool := pool
  accessFlags := fl
  thisClass := this
  superClass := sup
  interfaces := ifs
  fields := fds
  methods := ms
  attributes := attrs
def plain (name : String) (sup : Option ClassId) : Class where
  name := name
  kind := .ordinary
  loader := none
  accessFlags := 33
  super := sup
  interfaces := #[]
  cf := none
  fields := #[]
  methods := #[]
  instanceTypes := #[]
  staticTypes := #[]
  resolved := #[]
  callSites := []
  init := .initialized
  statics := none
  mirror := none

def pool0 : Array CpInfo := pool [(5, u "<init>"), (0, u "()V"), (1, .class_ 10), (1, u "java/lang/Object")] 113

def k0m0 : Method := { name := "<init>", desc := "()V", sig := { parameters := [], returnType := none }, accessFlags := 1, code := none }
/-- java/lang/Object -/
def k0 : Class := { plain "java/lang/Object" none with
  accessFlags := 33
  interfaces := #[]
  cf := some (fileOf pool0 8 #[] #[{ accessFlags := 1, nameIndex := 5, descriptorIndex := 6, attributes := #[] }] 33 0 #[] #[])
  fields := #[]
  methods := #[k0m0]
  instanceTypes := #[]
  staticTypes := #[]
  resolved := Array.replicate 124 none
  statics := none }

def pool1 : Array CpInfo := pool [(2, .class_ 4), (1, u "java/lang/Object"), (0, u "<init>"), (0, u "()V"), (0, .integer 2147483647), (0, .methodref 9 10), (0, .class_ 11), (0, .nameAndType 12 13), (0, u "com/example/dirbound/dirbound/cli/ExitCodeOfPinLaw"), (0, u "failureOf"), (0, u "(I)Lcom/example/dirbound/dirbound/DirectoryException$Failure;"), (0, .methodref 15 16), (0, .class_ 17), (0, .nameAndType 18 19), (0, u "com/example/dirbound/dirbound/cli/ExitCode"), (0, u "of"), (0, u "(Lcom/example/dirbound/dirbound/DirectoryException$Failure;)Lcom/example/dirbound/dirbound/cli/ExitCode;"), (0, .methodref 9 21), (0, .nameAndType 22 23), (0, u "expectedOf"), (0, u "(I)Lcom/example/dirbound/dirbound/cli/ExitCode;"), (0, .methodref 15 25), (0, .nameAndType 26 27), (0, u "status"), (0, u "()I"), (0, .methodref 9 29), (0, .nameAndType 30 31), (0, u "statusOf"), (0, u "(I)I"), (0, .fieldref 33 34), (0, .class_ 35), (0, .nameAndType 36 37), (0, u "com/example/dirbound/dirbound/DirectoryException$Failure"), (0, u "INVALID_NAME"), (0, u "Lcom/example/dirbound/dirbound/DirectoryException$Failure;"), (0, .fieldref 33 39), (0, .nameAndType 40 37), (0, u "POLICY"), (0, .fieldref 33 42), (0, .nameAndType 43 37), (0, u "NOT_FOUND"), (0, .fieldref 33 45), (0, .nameAndType 46 37), (0, u "ALREADY_BOUND"), (0, .fieldref 33 48), (0, .nameAndType 49 37), (0, u "UNREACHABLE"), (0, .fieldref 33 51), (0, .nameAndType 52 37), (0, u "MALFORMED"), (0, .fieldref 33 54), (0, .nameAndType 55 37), (0, u "REFUSED"), (0, .fieldref 33 57), (0, .nameAndType 58 37), (0, u "FACTORY"), (0, .fieldref 33 60), (0, .nameAndType 61 37), (0, u "UNEXPECTED"), (0, .fieldref 15 63), (0, .nameAndType 64 65), (0, u "USAGE"), (0, u "Lcom/example/dirbound/dirbound/cli/ExitCode;"), (0, .fieldref 15 67), (0, .nameAndType 40 65), (0, .fieldref 15 69), (0, .nameAndType 43 65), (0, .fieldref 15 71), (0, .nameAndType 46 65), (0, .fieldref 15 73), (0, .nameAndType 49 65), (0, .fieldref 15 75), (0, .nameAndType 52 65), (0, .fieldref 15 77), (0, .nameAndType 55 65), (0, .fieldref 15 79), (0, .nameAndType 80 65), (0, u "FAILURE"), (2, u "law"), (0, u "(I)Z")] 7

def k1m0 : Method := { name := "<init>", desc := "()V", sig := { parameters := [], returnType := none }, accessFlags := 2, code := none }
def k1c1 : Code := { maxStack := 2, maxLocals := 4, code := code, exceptionTable := #[], attributes := #[] }
def k1m1 : Method := { name := "law", desc := "(I)Z", sig := { parameters := [.int], returnType := some .boolean }, accessFlags := 9, code := some k1c1 }
def k1c2 : Code := { maxStack := 2, maxLocals := 1, code := method_3_code, exceptionTable := #[], attributes := #[] }
def k1m2 : Method := { name := "failureOf", desc := "(I)Lcom/example/dirbound/dirbound/DirectoryException$Failure;", sig := { parameters := [.int], returnType := some (.object "com/example/dirbound/dirbound/DirectoryException$Failure") }, accessFlags := 10, code := some k1c2 }
def k1c3 : Code := { maxStack := 2, maxLocals := 1, code := method_4_code, exceptionTable := #[], attributes := #[] }
def k1m3 : Method := { name := "expectedOf", desc := "(I)Lcom/example/dirbound/dirbound/cli/ExitCode;", sig := { parameters := [.int], returnType := some (.object "com/example/dirbound/dirbound/cli/ExitCode") }, accessFlags := 10, code := some k1c3 }
def k1c4 : Code := { maxStack := 2, maxLocals := 1, code := method_5_code, exceptionTable := #[], attributes := #[] }
def k1m4 : Method := { name := "statusOf", desc := "(I)I", sig := { parameters := [.int], returnType := some .int }, accessFlags := 10, code := some k1c4 }
/-- com/example/dirbound/dirbound/cli/ExitCodeOfPinLaw -/
def k1 : Class := { plain "com/example/dirbound/dirbound/cli/ExitCodeOfPinLaw" (some 0) with
  accessFlags := 49
  interfaces := #[]
  cf := some (fileOf pool1 9 #[] #[{ accessFlags := 2, nameIndex := 5, descriptorIndex := 6, attributes := #[] }, { accessFlags := 9, nameIndex := 83, descriptorIndex := 84, attributes := #[] }, { accessFlags := 10, nameIndex := 12, descriptorIndex := 13, attributes := #[] }, { accessFlags := 10, nameIndex := 22, descriptorIndex := 23, attributes := #[] }, { accessFlags := 10, nameIndex := 30, descriptorIndex := 31, attributes := #[] }] 49 2 #[] #[])
  fields := #[]
  methods := #[k1m0, k1m1, k1m2, k1m3, k1m4]
  instanceTypes := #[]
  staticTypes := #[]
  resolved := Array.replicate 92 none
  statics := none }

def pool2 : Array CpInfo := pool [(1, .class_ 2), (0, u "java/lang/constant/Constable"), (0, .class_ 4), (0, u "java/lang/Object")] 6

/-- java/lang/constant/Constable -/
def k2 : Class := { plain "java/lang/constant/Constable" (some 0) with
  accessFlags := 1537
  interfaces := #[]
  cf := some (fileOf pool2 1 #[] #[] 1537 3 #[] #[])
  fields := #[]
  methods := #[]
  instanceTypes := #[]
  staticTypes := #[]
  resolved := Array.replicate 11 none
  statics := none }

def pool3 : Array CpInfo := pool [(1, .class_ 2), (0, u "java/lang/Comparable"), (0, .class_ 4), (0, u "java/lang/Object")] 7

/-- java/lang/Comparable -/
def k3 : Class := { plain "java/lang/Comparable" (some 0) with
  accessFlags := 1537
  interfaces := #[]
  cf := some (fileOf pool3 1 #[] #[] 1537 3 #[] #[])
  fields := #[]
  methods := #[]
  instanceTypes := #[]
  staticTypes := #[]
  resolved := Array.replicate 12 none
  statics := none }

def pool4 : Array CpInfo := pool [(1, .class_ 2), (0, u "java/io/Serializable"), (0, .class_ 4), (0, u "java/lang/Object")] 2

/-- java/io/Serializable -/
def k4 : Class := { plain "java/io/Serializable" (some 0) with
  accessFlags := 1537
  interfaces := #[]
  cf := some (fileOf pool4 1 #[] #[] 1537 3 #[] #[])
  fields := #[]
  methods := #[]
  instanceTypes := #[]
  staticTypes := #[]
  resolved := Array.replicate 7 none
  statics := none }

def pool5 : Array CpInfo := pool [(2, .class_ 4), (1, u "java/lang/Enum"), (0, u "name"), (0, u "Ljava/lang/String;"), (0, .fieldref 2 8), (0, .nameAndType 9 10), (0, u "ordinal"), (0, u "I"), (1, .class_ 14), (1, u "java/lang/Object"), (4, u "hash"), (86, .class_ 108), (1, u "java/lang/Enum$EnumDesc"), (2, .class_ 112), (0, u "java/lang/constant/Constable"), (0, .class_ 114), (0, u "java/lang/Comparable"), (0, .class_ 116), (0, u "java/io/Serializable"), (9, u "()I")] 77

def k5c0 : Code := { maxStack := 1, maxLocals := 1, code := jdk_37_method_2_code, exceptionTable := #[], attributes := #[] }
def k5m0 : Method := { name := "ordinal", desc := "()I", sig := { parameters := [], returnType := some .int }, accessFlags := 17, code := some k5c0 }
/-- java/lang/Enum -/
def k5 : Class := { plain "java/lang/Enum" (some 0) with
  accessFlags := 1057
  interfaces := #[2, 3, 4]
  cf := some (fileOf pool5 2 #[.nestMembers #[106]] #[{ accessFlags := 17, nameIndex := 9, descriptorIndex := 126, attributes := #[] }] 1057 12 #[111, 113, 115] #[{ accessFlags := 18, nameIndex := 5, descriptorIndex := 6, attributes := #[] }, { accessFlags := 18, nameIndex := 9, descriptorIndex := 10, attributes := #[] }, { accessFlags := 2, nameIndex := 19, descriptorIndex := 10, attributes := #[] }])
  fields := #[{ name := "name", type := (.object "java/lang/String"), accessFlags := 18, slot := 0, constantValue := 0 }, { name := "ordinal", type := .int, accessFlags := 18, slot := 1, constantValue := 0 }, { name := "hash", type := .int, accessFlags := 2, slot := 2, constantValue := 0 }]
  methods := #[k5m0]
  instanceTypes := #[(.object "java/lang/String"), .int, .int]
  staticTypes := #[]
  resolved := Array.replicate 204 none
  statics := none }

def pool6 : Array CpInfo := pool [(1, .class_ 2), (0, u "com/example/dirbound/dirbound/DirectoryException$Failure"), (2, u "INVALID_NAME"), (0, u "Lcom/example/dirbound/dirbound/DirectoryException$Failure;"), (2, u "POLICY"), (2, u "NOT_FOUND"), (2, u "ALREADY_BOUND"), (2, u "UNREACHABLE"), (2, u "MALFORMED"), (2, u "REFUSED"), (2, u "FACTORY"), (2, u "UNEXPECTED"), (2, u "$VALUES"), (0, u "[Lcom/example/dirbound/dirbound/DirectoryException$Failure;"), (6, .class_ 43), (1, u "java/lang/Enum"), (32, .class_ 77), (0, u "com/example/dirbound/dirbound/DirectoryException")] 2

/-- com/example/dirbound/dirbound/DirectoryException$Failure -/
def k6 : Class := { plain "com/example/dirbound/dirbound/DirectoryException$Failure" (some 5) with
  accessFlags := 16433
  interfaces := #[]
  cf := some (fileOf pool6 1 #[.nestHost 76] #[] 16433 41 #[] #[{ accessFlags := 16409, nameIndex := 5, descriptorIndex := 6, attributes := #[] }, { accessFlags := 16409, nameIndex := 9, descriptorIndex := 6, attributes := #[] }, { accessFlags := 16409, nameIndex := 12, descriptorIndex := 6, attributes := #[] }, { accessFlags := 16409, nameIndex := 15, descriptorIndex := 6, attributes := #[] }, { accessFlags := 16409, nameIndex := 18, descriptorIndex := 6, attributes := #[] }, { accessFlags := 16409, nameIndex := 21, descriptorIndex := 6, attributes := #[] }, { accessFlags := 16409, nameIndex := 24, descriptorIndex := 6, attributes := #[] }, { accessFlags := 16409, nameIndex := 27, descriptorIndex := 6, attributes := #[] }, { accessFlags := 16409, nameIndex := 30, descriptorIndex := 6, attributes := #[] }, { accessFlags := 4122, nameIndex := 33, descriptorIndex := 34, attributes := #[] }])
  fields := #[{ name := "INVALID_NAME", type := (.object "com/example/dirbound/dirbound/DirectoryException$Failure"), accessFlags := 16409, slot := 0, constantValue := 0 }, { name := "POLICY", type := (.object "com/example/dirbound/dirbound/DirectoryException$Failure"), accessFlags := 16409, slot := 1, constantValue := 0 }, { name := "NOT_FOUND", type := (.object "com/example/dirbound/dirbound/DirectoryException$Failure"), accessFlags := 16409, slot := 2, constantValue := 0 }, { name := "ALREADY_BOUND", type := (.object "com/example/dirbound/dirbound/DirectoryException$Failure"), accessFlags := 16409, slot := 3, constantValue := 0 }, { name := "UNREACHABLE", type := (.object "com/example/dirbound/dirbound/DirectoryException$Failure"), accessFlags := 16409, slot := 4, constantValue := 0 }, { name := "MALFORMED", type := (.object "com/example/dirbound/dirbound/DirectoryException$Failure"), accessFlags := 16409, slot := 5, constantValue := 0 }, { name := "REFUSED", type := (.object "com/example/dirbound/dirbound/DirectoryException$Failure"), accessFlags := 16409, slot := 6, constantValue := 0 }, { name := "FACTORY", type := (.object "com/example/dirbound/dirbound/DirectoryException$Failure"), accessFlags := 16409, slot := 7, constantValue := 0 }, { name := "UNEXPECTED", type := (.object "com/example/dirbound/dirbound/DirectoryException$Failure"), accessFlags := 16409, slot := 8, constantValue := 0 }, { name := "$VALUES", type := (.array (.object "com/example/dirbound/dirbound/DirectoryException$Failure")), accessFlags := 4122, slot := 9, constantValue := 0 }]
  methods := #[]
  instanceTypes := #[(.object "java/lang/String"), .int, .int]
  staticTypes := #[(.object "com/example/dirbound/dirbound/DirectoryException$Failure"), (.object "com/example/dirbound/dirbound/DirectoryException$Failure"), (.object "com/example/dirbound/dirbound/DirectoryException$Failure"), (.object "com/example/dirbound/dirbound/DirectoryException$Failure"), (.object "com/example/dirbound/dirbound/DirectoryException$Failure"), (.object "com/example/dirbound/dirbound/DirectoryException$Failure"), (.object "com/example/dirbound/dirbound/DirectoryException$Failure"), (.object "com/example/dirbound/dirbound/DirectoryException$Failure"), (.object "com/example/dirbound/dirbound/DirectoryException$Failure"), (.array (.object "com/example/dirbound/dirbound/DirectoryException$Failure"))]
  resolved := Array.replicate 80 none
  statics := some 0 }

def pool7 : Array CpInfo := pool [(1, .class_ 2), (0, u "com/example/dirbound/dirbound/cli/ExitCode"), (2, u "SUCCESS"), (0, u "Lcom/example/dirbound/dirbound/cli/ExitCode;"), (0, .fieldref 1 8), (0, .nameAndType 9 6), (0, u "FAILURE"), (0, .fieldref 1 11), (0, .nameAndType 12 6), (0, u "USAGE"), (0, .fieldref 1 14), (0, .nameAndType 15 6), (0, u "POLICY"), (0, .fieldref 1 17), (0, .nameAndType 18 6), (0, u "NOT_FOUND"), (0, .fieldref 1 20), (0, .nameAndType 21 6), (0, u "ALREADY_BOUND"), (0, .fieldref 1 23), (0, .nameAndType 24 6), (0, u "UNREACHABLE"), (0, .fieldref 1 26), (0, .nameAndType 27 6), (0, u "MALFORMED"), (0, .fieldref 1 29), (0, .nameAndType 30 6), (0, u "REFUSED"), (2, u "FLAGGED"), (2, u "$VALUES"), (0, u "[Lcom/example/dirbound/dirbound/cli/ExitCode;"), (6, .class_ 46), (1, u "java/lang/Enum"), (6, .fieldref 1 54), (0, .nameAndType 55 56), (0, u "status"), (0, u "I"), (0, .fieldref 58 59), (0, .class_ 60), (0, .nameAndType 61 62), (0, u "com/example/dirbound/dirbound/cli/ExitCode$1"), (0, u "$SwitchMap$com$example$dirbound$dirbound$DirectoryException$Failure"), (0, u "[I"), (0, .methodref 64 65), (0, .class_ 66), (0, .nameAndType 67 68), (0, u "com/example/dirbound/dirbound/DirectoryException$Failure"), (0, u "ordinal"), (0, u "()I"), (29, u "of"), (0, u "(Lcom/example/dirbound/dirbound/DirectoryException$Failure;)Lcom/example/dirbound/dirbound/cli/ExitCode;")] 11

def k7c0 : Code := { maxStack := 4, maxLocals := 1, code := prog_34_method_4_code, exceptionTable := #[], attributes := #[] }
def k7m0 : Method := { name := "of", desc := "(Lcom/example/dirbound/dirbound/DirectoryException$Failure;)Lcom/example/dirbound/dirbound/cli/ExitCode;", sig := { parameters := [(.object "com/example/dirbound/dirbound/DirectoryException$Failure")], returnType := some (.object "com/example/dirbound/dirbound/cli/ExitCode") }, accessFlags := 8, code := some k7c0 }
def k7c1 : Code := { maxStack := 1, maxLocals := 1, code := prog_34_method_5_code, exceptionTable := #[], attributes := #[] }
def k7m1 : Method := { name := "status", desc := "()I", sig := { parameters := [], returnType := some .int }, accessFlags := 0, code := some k7c1 }
/-- com/example/dirbound/dirbound/cli/ExitCode -/
def k7 : Class := { plain "com/example/dirbound/dirbound/cli/ExitCode" (some 5) with
  accessFlags := 16432
  interfaces := #[]
  cf := some (fileOf pool7 1 #[.nestMembers #[58]] #[{ accessFlags := 8, nameIndex := 98, descriptorIndex := 99, attributes := #[] }, { accessFlags := 0, nameIndex := 55, descriptorIndex := 68, attributes := #[] }] 16432 44 #[] #[{ accessFlags := 16409, nameIndex := 5, descriptorIndex := 6, attributes := #[] }, { accessFlags := 16409, nameIndex := 9, descriptorIndex := 6, attributes := #[] }, { accessFlags := 16409, nameIndex := 12, descriptorIndex := 6, attributes := #[] }, { accessFlags := 16409, nameIndex := 15, descriptorIndex := 6, attributes := #[] }, { accessFlags := 16409, nameIndex := 18, descriptorIndex := 6, attributes := #[] }, { accessFlags := 16409, nameIndex := 21, descriptorIndex := 6, attributes := #[] }, { accessFlags := 16409, nameIndex := 24, descriptorIndex := 6, attributes := #[] }, { accessFlags := 16409, nameIndex := 27, descriptorIndex := 6, attributes := #[] }, { accessFlags := 16409, nameIndex := 30, descriptorIndex := 6, attributes := #[] }, { accessFlags := 16409, nameIndex := 33, descriptorIndex := 6, attributes := #[] }, { accessFlags := 18, nameIndex := 55, descriptorIndex := 56, attributes := #[] }, { accessFlags := 4122, nameIndex := 36, descriptorIndex := 37, attributes := #[] }])
  fields := #[{ name := "SUCCESS", type := (.object "com/example/dirbound/dirbound/cli/ExitCode"), accessFlags := 16409, slot := 0, constantValue := 0 }, { name := "FAILURE", type := (.object "com/example/dirbound/dirbound/cli/ExitCode"), accessFlags := 16409, slot := 1, constantValue := 0 }, { name := "USAGE", type := (.object "com/example/dirbound/dirbound/cli/ExitCode"), accessFlags := 16409, slot := 2, constantValue := 0 }, { name := "POLICY", type := (.object "com/example/dirbound/dirbound/cli/ExitCode"), accessFlags := 16409, slot := 3, constantValue := 0 }, { name := "NOT_FOUND", type := (.object "com/example/dirbound/dirbound/cli/ExitCode"), accessFlags := 16409, slot := 4, constantValue := 0 }, { name := "ALREADY_BOUND", type := (.object "com/example/dirbound/dirbound/cli/ExitCode"), accessFlags := 16409, slot := 5, constantValue := 0 }, { name := "UNREACHABLE", type := (.object "com/example/dirbound/dirbound/cli/ExitCode"), accessFlags := 16409, slot := 6, constantValue := 0 }, { name := "MALFORMED", type := (.object "com/example/dirbound/dirbound/cli/ExitCode"), accessFlags := 16409, slot := 7, constantValue := 0 }, { name := "REFUSED", type := (.object "com/example/dirbound/dirbound/cli/ExitCode"), accessFlags := 16409, slot := 8, constantValue := 0 }, { name := "FLAGGED", type := (.object "com/example/dirbound/dirbound/cli/ExitCode"), accessFlags := 16409, slot := 9, constantValue := 0 }, { name := "status", type := .int, accessFlags := 18, slot := 3, constantValue := 0 }, { name := "$VALUES", type := (.array (.object "com/example/dirbound/dirbound/cli/ExitCode")), accessFlags := 4122, slot := 10, constantValue := 0 }]
  methods := #[k7m0, k7m1]
  instanceTypes := #[(.object "java/lang/String"), .int, .int, .int]
  staticTypes := #[(.object "com/example/dirbound/dirbound/cli/ExitCode"), (.object "com/example/dirbound/dirbound/cli/ExitCode"), (.object "com/example/dirbound/dirbound/cli/ExitCode"), (.object "com/example/dirbound/dirbound/cli/ExitCode"), (.object "com/example/dirbound/dirbound/cli/ExitCode"), (.object "com/example/dirbound/dirbound/cli/ExitCode"), (.object "com/example/dirbound/dirbound/cli/ExitCode"), (.object "com/example/dirbound/dirbound/cli/ExitCode"), (.object "com/example/dirbound/dirbound/cli/ExitCode"), (.object "com/example/dirbound/dirbound/cli/ExitCode"), (.array (.object "com/example/dirbound/dirbound/cli/ExitCode"))]
  resolved := Array.replicate 111 none
  statics := some 1 }

def pool8 : Array CpInfo := pool [(8, .class_ 10), (1, u "com/example/dirbound/dirbound/cli/ExitCode$1"), (0, u "$SwitchMap$com$example$dirbound$dirbound$DirectoryException$Failure"), (0, u "[I"), (34, .class_ 48), (0, u "java/lang/Object"), (8, .class_ 58), (0, u "com/example/dirbound/dirbound/cli/ExitCode")] 5

/-- com/example/dirbound/dirbound/cli/ExitCode$1 -/
def k8 : Class := { plain "com/example/dirbound/dirbound/cli/ExitCode$1" (some 0) with
  accessFlags := 4128
  interfaces := #[]
  cf := some (fileOf pool8 8 #[.nestHost 57] #[] 4128 47 #[] #[{ accessFlags := 4120, nameIndex := 11, descriptorIndex := 12, attributes := #[] }])
  fields := #[{ name := "$SwitchMap$com$example$dirbound$dirbound$DirectoryException$Failure", type := (.array .int), accessFlags := 4120, slot := 0, constantValue := 0 }]
  methods := #[]
  instanceTypes := #[]
  staticTypes := #[(.array .int)]
  resolved := Array.replicate 64 none
  statics := some 2 }

def pool9 : Array CpInfo := pool [(1, u "java/lang/Cloneable"), (0, .class_ 1), (0, u "java/lang/Object"), (0, .class_ 3)] 3

/-- java/lang/Cloneable -/
def k9 : Class := { plain "java/lang/Cloneable" (some 0) with
  accessFlags := 1537
  interfaces := #[]
  cf := some (fileOf pool9 2 #[] #[] 1537 4 #[] #[])
  fields := #[]
  methods := #[]
  instanceTypes := #[]
  staticTypes := #[]
  resolved := Array.replicate 8 none
  statics := none }

/-- the primitive byte -/
def k10 : Class := { plain "byte" none with kind := .primitive 'B', accessFlags := 0x411 }
/-- [B -/
def k11 : Class := { plain "[B" (some 0) with kind := .array 10 .byte, interfaces := #[9, 4], accessFlags := 1041 }

/-- the primitive int -/
def k12 : Class := { plain "int" none with kind := .primitive 'I', accessFlags := 0x411 }
/-- [I -/
def k13 : Class := { plain "[I" (some 0) with kind := .array 12 .int, interfaces := #[9, 4], accessFlags := 1041 }

def heap : Heap := #[{ cls := 6, slots := #[.ref 3, .ref 9, .ref 7, .ref 5, .ref 13, .ref 18, .ref 16, .ref 11, .ref 15, .null], vm := .statics 6 },
  { cls := 7, slots := #[.null, .ref 12, .ref 4, .ref 10, .ref 8, .ref 6, .ref 14, .ref 19, .ref 17, .null, .null], vm := .statics 7 },
  { cls := 8, slots := #[.ref 20], vm := .statics 8 },
  { cls := 6, slots := #[.null, .int 0, .int 0], vm := .none },
  { cls := 7, slots := #[.null, .int 0, .int 0, .int 2], vm := .none },
  { cls := 6, slots := #[.null, .int 3, .int 0], vm := .none },
  { cls := 7, slots := #[.null, .int 0, .int 0, .int 5], vm := .none },
  { cls := 6, slots := #[.null, .int 2, .int 0], vm := .none },
  { cls := 7, slots := #[.null, .int 0, .int 0, .int 4], vm := .none },
  { cls := 6, slots := #[.null, .int 1, .int 0], vm := .none },
  { cls := 7, slots := #[.null, .int 0, .int 0, .int 3], vm := .none },
  { cls := 6, slots := #[.null, .int 7, .int 0], vm := .none },
  { cls := 7, slots := #[.null, .int 0, .int 0, .int 1], vm := .none },
  { cls := 6, slots := #[.null, .int 4, .int 0], vm := .none },
  { cls := 7, slots := #[.null, .int 0, .int 0, .int 6], vm := .none },
  { cls := 6, slots := #[.null, .int 8, .int 0], vm := .none },
  { cls := 6, slots := #[.null, .int 6, .int 0], vm := .none },
  { cls := 7, slots := #[.null, .int 0, .int 0, .int 8], vm := .none },
  { cls := 6, slots := #[.null, .int 5, .int 0], vm := .none },
  { cls := 7, slots := #[.null, .int 0, .int 0, .int 7], vm := .none },
  { cls := 13, slots := #[.int 1, .int 2, .int 3, .int 4, .int 5, .int 6, .int 7, .int 8, .int 9], vm := .none }]
def classes : Array Class := #[k0, k1, k2, k3, k4, k5, k6, k7, k8, k9, k10, k11, k12, k13]
def interned : List (Array UInt16 × Addr) := []
def slotsUsed : Nat := 90
def theMethod : MethodId := ⟨1, 1⟩
def args0 : Array Value := #[.int 5]
def aboutOver (below : List Frame) : State where
  vm := { classes := classes, interned := interned.toArray }
  heap := heap
  slotsUsed := slotsUsed
  threads := #[{ frames := .invoking theMethod args0 :: below }]
def below0 : List Frame := [.native { method := ⟨0, 0⟩, args := #[] }]
def about1 : State := aboutOver below0
def p0 : Program := .bare "" "" ""
def e0 : Env := launch0.env 0 0 0
theorem w_frames : about1.frames = Frame.invoking theMethod args0 :: below0 := rfl
set_option maxRecDepth 65536 in
theorem w_args : argsFit about1.vm theMethod args0 = true := by decide +kernel
set_option maxRecDepth 65536 in
theorem w_heap : heapFits about1 = true := by decide +kernel
set_option maxRecDepth 65536 in
theorem w_runnable : about1.curStatus? = some .runnable := by decide +kernel
set_option maxRecDepth 65536 in
theorem w_alone : about1.alone = true := by decide +kernel
set_option maxRecDepth 65536 in
theorem w_named : about1.methodNamed? x = some theMethod := by decide +kernel
set_option maxRecDepth 65536 in
theorem w_hears : about1.hears theMethod below0 = true := by decide +kernel
set_option maxRecDepth 65536 in
theorem w_ripe : about1.ripe theMethod args0 below0 = true := by decide +kernel
theorem w_running : about1.status = .running := rfl
set_option maxRecDepth 65536 in
theorem w_room : about1.hasRoom e0.platform room_1 = true :=
  launch0.hasRoom_least _ room_1 (by decide +kernel) (by decide +kernel) (by decide +kernel) (by decide +kernel) (by decide +kernel) (by decide +kernel)
theorem allAtoms_all (ts : List Jvm.Cond) (a : Array Jvm.Value) (st : Jvm.State) : (allAtoms ts).before a st = ts.all (fun c => c.before a st) := by
  induction ts with
  | nil => rfl
  | cons c t ih =>
    show (Jvm.Cond.and c (allAtoms t)).before a st = _
    rw [Jvm.Cond.before_and, ih, List.all_cons]
def words1 : List Jvm.Cond := Jvm.Cond.code x code maxLocals ret :: tables_1
/-- a 'code' word, met by the world's own term for the bytes: nothing is compared byte by byte -/
theorem code_word {y : MethodName} {bytes : ByteArray} {mx : Nat} {rt : Option FieldType} {a : Array Value} {s : State} {m : MethodId} {meth : Method} {c : Code} (h1 : s.methodNamed? y = some m) (h2 : s.vm.method? m = some meth) (h3 : meth.code = some c) (h4 : c.code = bytes)
    (h5 : (c.maxLocals == mx && c.exceptionTable.isEmpty && decide (c.maxStack ≤ mostOperands) && decide (meth.sig.returnType = rt) && !meth.locks && decide (parseMethodDescriptor y.desc = some meth.sig)) = true) : (Jvm.Cond.code y bytes mx rt).before a s = true := by
  simp only [Bool.and_eq_true, beq_iff_eq, Bool.not_eq_true', decide_eq_true_eq] at h5
  obtain ⟨⟨⟨⟨⟨g1, g2⟩, g3⟩, g4⟩, g5⟩, g6⟩ := h5
  simp [Cond.before, Cond.holds, Cond.value, h1, h2, h3, h4, g1, g2, g3, g4, g5, g6]
def isCode : Jvm.Cond → Bool
  | .code _ _ _ _ => true
  | _ => false
theorem all_split {L : List Jvm.Cond} {P : Jvm.Cond → Bool} (h1 : L.all (fun c => isCode c || P c) = true) (h2 : ∀ c ∈ L.filter isCode, P c = true) : L.all P = true := by
  refine List.all_eq_true.mpr fun c hc => ?_
  have h := List.all_eq_true.mp h1 c hc
  rcases Bool.eq_false_or_eq_true (isCode c) with hi | hi
  · exact h2 c (List.mem_filter.mpr ⟨hc, hi⟩)
  · simpa [hi] using h
set_option maxRecDepth 65536 in
theorem w_c0 : (Jvm.Cond.code x code maxLocals ret).before args0 about1 = true := code_word (m := ⟨1, 1⟩) (meth := k1m1) (c := k1c1) (by decide +kernel) rfl rfl rfl (by decide +kernel)
set_option maxRecDepth 65536 in
theorem w_c1 : (Jvm.Cond.code ({ cls := "com/example/dirbound/dirbound/cli/ExitCodeOfPinLaw", name := "failureOf", desc := "(I)Lcom/example/dirbound/dirbound/DirectoryException$Failure;" } : Jvm.MethodName) method_3_code (1 : Nat) (Option.some (Jvm.ClassFile.FieldType.object "com/example/dirbound/dirbound/DirectoryException$Failure"))).before args0 about1 = true := code_word (m := ⟨1, 2⟩) (meth := k1m2) (c := k1c2) (by decide +kernel) rfl rfl rfl (by decide +kernel)
set_option maxRecDepth 65536 in
theorem w_c2 : (Jvm.Cond.code ({ cls := "com/example/dirbound/dirbound/cli/ExitCode", name := "of", desc := "(Lcom/example/dirbound/dirbound/DirectoryException$Failure;)Lcom/example/dirbound/dirbound/cli/ExitCode;" } : Jvm.MethodName) prog_34_method_4_code (1 : Nat) (Option.some (Jvm.ClassFile.FieldType.object "com/example/dirbound/dirbound/cli/ExitCode"))).before args0 about1 = true := code_word (m := ⟨7, 0⟩) (meth := k7m0) (c := k7c0) (by decide +kernel) rfl rfl rfl (by decide +kernel)
set_option maxRecDepth 65536 in
theorem w_c3 : (Jvm.Cond.code ({ cls := "java/lang/Enum", name := "ordinal", desc := "()I" } : Jvm.MethodName) jdk_37_method_2_code (1 : Nat) (Option.some Jvm.ClassFile.FieldType.int)).before args0 about1 = true := code_word (m := ⟨5, 0⟩) (meth := k5m0) (c := k5c0) (by decide +kernel) rfl rfl rfl (by decide +kernel)
set_option maxRecDepth 65536 in
theorem w_c4 : (Jvm.Cond.code ({ cls := "com/example/dirbound/dirbound/cli/ExitCodeOfPinLaw", name := "expectedOf", desc := "(I)Lcom/example/dirbound/dirbound/cli/ExitCode;" } : Jvm.MethodName) method_4_code (1 : Nat) (Option.some (Jvm.ClassFile.FieldType.object "com/example/dirbound/dirbound/cli/ExitCode"))).before args0 about1 = true := code_word (m := ⟨1, 3⟩) (meth := k1m3) (c := k1c3) (by decide +kernel) rfl rfl rfl (by decide +kernel)
set_option maxRecDepth 65536 in
theorem w_c5 : (Jvm.Cond.code ({ cls := "com/example/dirbound/dirbound/cli/ExitCode", name := "status", desc := "()I" } : Jvm.MethodName) prog_34_method_5_code (1 : Nat) (Option.some Jvm.ClassFile.FieldType.int)).before args0 about1 = true := code_word (m := ⟨7, 1⟩) (meth := k7m1) (c := k7c1) (by decide +kernel) rfl rfl rfl (by decide +kernel)
set_option maxRecDepth 65536 in
theorem w_c6 : (Jvm.Cond.code ({ cls := "com/example/dirbound/dirbound/cli/ExitCodeOfPinLaw", name := "statusOf", desc := "(I)I" } : Jvm.MethodName) method_5_code (1 : Nat) (Option.some Jvm.ClassFile.FieldType.int)).before args0 about1 = true := code_word (m := ⟨1, 4⟩) (meth := k1m4) (c := k1c4) (by decide +kernel) rfl rfl rfl (by decide +kernel)
def codes1 : List Jvm.Cond := [Jvm.Cond.code x code maxLocals ret, Jvm.Cond.code ({ cls := "com/example/dirbound/dirbound/cli/ExitCodeOfPinLaw", name := "failureOf", desc := "(I)Lcom/example/dirbound/dirbound/DirectoryException$Failure;" } : Jvm.MethodName) method_3_code (1 : Nat) (Option.some (Jvm.ClassFile.FieldType.object "com/example/dirbound/dirbound/DirectoryException$Failure")), Jvm.Cond.code ({ cls := "com/example/dirbound/dirbound/cli/ExitCode", name := "of", desc := "(Lcom/example/dirbound/dirbound/DirectoryException$Failure;)Lcom/example/dirbound/dirbound/cli/ExitCode;" } : Jvm.MethodName) prog_34_method_4_code (1 : Nat) (Option.some (Jvm.ClassFile.FieldType.object "com/example/dirbound/dirbound/cli/ExitCode")), Jvm.Cond.code ({ cls := "java/lang/Enum", name := "ordinal", desc := "()I" } : Jvm.MethodName) jdk_37_method_2_code (1 : Nat) (Option.some Jvm.ClassFile.FieldType.int), Jvm.Cond.code ({ cls := "com/example/dirbound/dirbound/cli/ExitCodeOfPinLaw", name := "expectedOf", desc := "(I)Lcom/example/dirbound/dirbound/cli/ExitCode;" } : Jvm.MethodName) method_4_code (1 : Nat) (Option.some (Jvm.ClassFile.FieldType.object "com/example/dirbound/dirbound/cli/ExitCode")), Jvm.Cond.code ({ cls := "com/example/dirbound/dirbound/cli/ExitCode", name := "status", desc := "()I" } : Jvm.MethodName) prog_34_method_5_code (1 : Nat) (Option.some Jvm.ClassFile.FieldType.int), Jvm.Cond.code ({ cls := "com/example/dirbound/dirbound/cli/ExitCodeOfPinLaw", name := "statusOf", desc := "(I)I" } : Jvm.MethodName) method_5_code (1 : Nat) (Option.some Jvm.ClassFile.FieldType.int)]
set_option maxRecDepth 65536 in
theorem codes_eq : words1.filter isCode = codes1 := rfl
theorem w_codes : ∀ c ∈ words1.filter isCode, c.before args0 about1 = true := by
  rw [codes_eq]
  intro c hc
  simp only [codes1, List.mem_cons, List.not_mem_nil, or_false] at hc
  rcases hc with rfl | rfl | rfl | rfl | rfl | rfl | rfl
  · exact w_c0
  · exact w_c1
  · exact w_c2
  · exact w_c3
  · exact w_c4
  · exact w_c5
  · exact w_c6
set_option maxRecDepth 65536 in
theorem w_t1 : (words1.take 24).all (fun c => isCode c || c.before args0 about1) = true := by decide +kernel
set_option maxRecDepth 65536 in
theorem w_t2 : ((words1.drop 24).take 24).all (fun c => isCode c || c.before args0 about1) = true := by decide +kernel
set_option maxRecDepth 65536 in
theorem w_t3 : (((words1.drop 24).drop 24).take 24).all (fun c => isCode c || c.before args0 about1) = true := by decide +kernel
set_option maxRecDepth 65536 in
theorem w_t4 : (((words1.drop 24).drop 24).drop 24).all (fun c => isCode c || c.before args0 about1) = true := by decide +kernel
theorem w_tables : (allAtoms (Jvm.Cond.code x code maxLocals ret :: tables_1)).before args0 about1 = true := by
  rw [allAtoms_all]
  show words1.all (fun c => c.before args0 about1) = true
  refine all_split ?_ w_codes
  rw [← List.take_append_drop 24 words1, List.all_append, w_t1, ← List.take_append_drop 24 (words1.drop 24), List.all_append, w_t2, ← List.take_append_drop 24 ((words1.drop 24).drop 24), List.all_append, w_t3, w_t4]
  rfl
set_option maxRecDepth 65536 in
theorem w_case : (Jvm.Cond.and given_1 narrow_1).before args0 about1 = true := by decide +kernel
theorem w_applies : (headSpec (Jvm.Cond.code x code maxLocals ret :: tables_1) room_1).applies x e0.platform about1 = true :=
  (Spec.applies_iff w_frames).mpr ⟨w_running, w_runnable, w_alone, w_named, w_hears, w_ripe, w_room, w_tables⟩
theorem atStart : AtStart classFile x code maxLocals ret World_1 tables_1 room_1 Calls_1 rest_1 Pre_1 launch0 p0 e0 about1 theMethod args0 below0 :=
  ⟨lists_1, trivial, launch0.admits_env _ _ _, launch0.least_env, fairChoices_fair.cas, fairChoices_fair.clock, w_frames, w_args, w_heap, w_applies, trivial, trivial, w_case⟩
end start1
theorem witness_1 : WitnessClaimed_1 := ⟨start1.p0, start1.e0, start1.about1, start1.theMethod, start1.args0, start1.below0, start1.atStart⟩
end Jvm.Pilot.@@N@@
