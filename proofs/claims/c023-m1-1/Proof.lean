
import JvmDerived
import JvmDerived.Pilot.@@N@@Statement
import JvmDerived.Pilot.@@N@@Code
set_option linter.unusedVariables false
set_option linter.unusedSimpArgs false
namespace Jvm.RoadKit
open Sem ClassFile Op Lib Jvm.Stand Jvm.Free Jvm.LawKit
section OwnGo
variable {p : Program} {l : Launch} {e : Env} {R : Room} {s : State} {m : MethodId} {args : Array Value} {below : List Frame} {meth : Method} {c : Code} {T : State} {locs : List Loc} {cells slots kc ks : Nat} {Z : State} {a0 : Array Value} {h : Heap} {Q : Option Value → Heap → List Loc → Prop} {F0 : State → Outcome → Prop}
/-- what is left of a run from T: it ends, and F0 holds of its end -/
def Go (p : Program) (e : Env) (below : List Frame) (F0 : State → Outcome → Prop) (T : State) : Prop :=
  ∃ (U : State) (o : Outcome), Steps p.tables e below T U ∧ U.status = .running ∧ Ended U below o ∧ F0 U o
def EndN (s : State) (Q : Option Value → Heap → List Loc → Prop) (kc ks : Nat) (U : State) (o : Outcome) : Prop := ∃ v L, o = .returned v ∧ Q v U.heap L ∧ FrameEnd s o U L kc ks
theorem Go.step {T' : State} (g : ∀ t, Steps p.tables e below T' t → Steps p.tables e below T t) (k : Go p e below F0 T') : Go p e below F0 T := by
  obtain ⟨U, o, h1, r⟩ := k
  exact ⟨U, o, g _ h1, r⟩
theorem Go.cast {g g' : JFrame} (q : g = g') (k : Go p e below F0 (T.setTop g')) : Go p e below F0 (T.setTop g) := by rw [q]; exact k
/-- a body's contract: from these arguments and this heap it returns, and Q holds -/
def Ctr (l : Launch) (Z : State) (y : MethodName) (bytes : ByteArray) (maxL : Nat) (ret : Option FieldType) (rm : Room) (as : Array Value) (h : Heap) (Q : Option Value → Heap → List Loc → Prop) : Prop :=
  ∀ ws : List Jvm.Cond, MetFree l y (head1 (Jvm.Cond.code y bytes maxL ret :: ws) rm) (fun a U => a = as ∧ Z.Warmed39 U.vm ∧ U.heap = h) (fun _ _ _ _ _ => True) (fun _ U o U' => ∃ v L, o = .returned v ∧ Q v U'.heap L ∧ FrameEnd U o U' L rm.cells rm.slots)
theorem Ctr.of {y : MethodName} {bytes : ByteArray} {maxL : Nat} {ret : Option FieldType} {rm : Room} {as : Array Value} (hp : plainFor y = true)
    (body : ∀ (p : Program) (e : Env) (s : State) (m : MethodId) (below : List Frame) (meth : Method) (c : Code) (T : State), p.tables.exec = Jvm.exec → Z.Warmed39 s.vm → c.code = bytes → c.maxLocals = maxL → s.vm.findClass y.cls = some m.cls → meth.name = y.name → meth.sig.returnType = ret → meth.locks = false → T.heap = h → s.heap = h → Stand p l e rm s m as below meth c T [] 0 0 →
      Go p e below (EndN s Q rm.cells rm.slots) (T.setTop (entryFrame m as maxL))) : Ctr l Z y bytes maxL ret rm as h Q := by
  intro ws
  refine MetFree.of_bodySF hp hisR ?_
  intro p e s m args below meth c s₁ Bd hml0 hP hK
  obtain ⟨rfl, hZ, hh⟩ := hP
  exact body p e s m below meth c s₁ Bd.exec hZ Bd.bytes hml0 (findClass_of_methodNamed Bd.named) (name_of_methodNamed Bd.named Bd.method).1 Bd.returns Bd.notSynchronized (by rw [← hh, Bd.state]; rfl) hh (Stand.of_body Bd)
theorem Go.retV (X : Stand p l e R s m args below meth c T locs cells slots) (hx : p.tables.exec = Jvm.exec) (hlk : meth.locks = false) {t : FieldType} (hret : meth.sig.returnType = some t) {pc : Nat} {Ls : Array Slot} {v : Value} {i : Instr} {rest : List Value} (hn : narrow t v = v)
    (hi : (i = .ireturn ∧ (t = .int ∨ t = .boolean ∨ t = .byte ∨ t = .char ∨ t = .short) ∧ ∃ z, v = .int z) ∨ (i = .lreturn ∧ t = .long ∧ ∃ z, v = .long z) ∨ (i = .dreturn ∧ t = .double ∧ ∃ z, v = .double z) ∨ (i = .freturn ∧ t = .float ∧ ∃ z, v = .float z) ∨ (i = .areturn ∧ t.isReference = true ∧ v.isRef = true))
    (hd : decode c.code pc = .ok (i, 1)) (hc : cells ≤ kc) (hs : slots ≤ ks) (q : Q (some v) T.heap locs) : Go p e below (EndN s Q kc ks) (T.setTop (mkF m pc Ls (v :: rest))) := by
  obtain ⟨fs, hr, hrun, hended, hW, hsame⟩ := X.leave (v := some v) (fun h => by rw [hret] at h; cases h) hlk
  exact ⟨_, _, retOut X hx hret hn hi hd hr, hrun, hended, _, _, rfl, q, ⟨_, rfl⟩, hW, hsame.mono hc hs⟩
theorem Go.retR (X : Stand p l e R s m args below meth c T locs cells slots) (hx : p.tables.exec = Jvm.exec) (hlk : meth.locks = false) {t : FieldType} (hret : meth.sig.returnType = some t) (ht : t.isReference = true) {pc : Nat} {Ls : Array Slot} {v : Value} (hv : v.isRef = true) {rest : List Value} (hd : decode c.code pc = .ok (.areturn, 1)) (hc : cells ≤ kc) (hs : slots ≤ ks) (q : Q (some v) T.heap locs) : Go p e below (EndN s Q kc ks) (T.setTop (mkF m pc Ls (v :: rest))) :=
  Go.retV X hx hlk hret (by rcases ref_cases hv with rfl | ⟨z, rfl⟩ <;> cases t <;> simp [FieldType.isReference] at ht <;> rfl) (Or.inr (Or.inr (Or.inr (Or.inr ⟨rfl, ht, hv⟩)))) hd hc hs q
theorem Go.retN (X : Stand p l e R s m args below meth c T locs cells slots) (hx : p.tables.exec = Jvm.exec) (hlk : meth.locks = false) {t : FieldType} (hret : meth.sig.returnType = some t) (ht : t = .boolean ∨ t = .byte ∨ t = .char ∨ t = .short) {pc : Nat} {Ls : Array Slot} {z : Int32} {rest : List Value} (hd : decode c.code pc = .ok (.ireturn, 1)) (hc : cells ≤ kc) (hs : slots ≤ ks) (q : Q (some (.int (nar t z))) T.heap locs) : Go p e below (EndN s Q kc ks) (T.setTop (mkF m pc Ls (.int z :: rest))) := by
  obtain ⟨fs, hr, hrun, hended, hW, hsame⟩ := X.leave (v := some (.int (nar t z))) (fun h => by rw [hret] at h; cases h) hlk
  exact ⟨_, _, Jvm.RoadKit.retN X hx hret ht hd hr, hrun, hended, _, _, rfl, q, ⟨_, rfl⟩, hW, hsame.mono hc hs⟩
theorem Go.iloadN (X : Stand p l e R s m args below meth c T locs cells slots) (hx : p.tables.exec = Jvm.exec) {pc pc' : Nat} {Ls : Array Slot} {st : List Value} {k : Fin 4} {v : Int32} (hp : pc' = pc + 1) (hd : decode c.code pc = .ok (.iload_n k, 1)) (hl : Ls[k.val]? = some (.val (.int v))) (k : Go p e below F0 (T.setTop (mkF m pc' Ls (.int v :: st)))) : Go p e below F0 (T.setTop (mkF m pc Ls st)) := by
  subst hp
  exact Go.step (fun t kt => XS.iloadN X.here hx (g := mkF m pc Ls _) rfl hd hl kt) k
theorem Go.aloadN (X : Stand p l e R s m args below meth c T locs cells slots) (hx : p.tables.exec = Jvm.exec) {pc pc' : Nat} {Ls : Array Slot} {st : List Value} {k : Fin 4} {v : Value} (hp : pc' = pc + 1) (hd : decode c.code pc = .ok (.aload_n k, 1)) (hl : Ls[k.val]? = some (.val v)) (hv : v.isRef = true) (k : Go p e below F0 (T.setTop (mkF m pc' Ls (v :: st)))) : Go p e below F0 (T.setTop (mkF m pc Ls st)) := by
  subst hp
  exact Go.step (fun t kt => XS.aloadN X.here hx (g := mkF m pc Ls _) rfl hd hl hv kt) k
theorem Go.iconst (X : Stand p l e R s m args below meth c T locs cells slots) (hx : p.tables.exec = Jvm.exec) {pc pc' : Nat} {Ls : Array Slot} {st : List Value} {i : Int} {v : Int32} (hp : pc' = pc + 1) (hd : decode c.code pc = .ok (.iconst i, 1)) (hv : Int32.ofInt i = v) (k : Go p e below F0 (T.setTop (mkF m pc' Ls (.int v :: st)))) : Go p e below F0 (T.setTop (mkF m pc Ls st)) := by
  subst hp
  exact Go.step (fun t kt => XS.iconst X.here hx (g := mkF m pc Ls _) rfl hd (by rw [hv]; exact kt)) k
theorem Go.bipush (X : Stand p l e R s m args below meth c T locs cells slots) (hx : p.tables.exec = Jvm.exec) {pc pc' : Nat} {Ls : Array Slot} {st : List Value} {i : Int} {v : Int32} (hp : pc' = pc + 2) (hd : decode c.code pc = .ok (.bipush i, 2)) (hv : (Int8.ofInt i).toInt32 = v) (k : Go p e below F0 (T.setTop (mkF m pc' Ls (.int v :: st)))) : Go p e below F0 (T.setTop (mkF m pc Ls st)) := by
  subst hp
  exact Go.step (fun t kt => XS.bipush X.here hx (g := mkF m pc Ls _) rfl hd (by rw [hv]; exact kt)) k
theorem Go.sipush (X : Stand p l e R s m args below meth c T locs cells slots) (hx : p.tables.exec = Jvm.exec) {pc pc' : Nat} {Ls : Array Slot} {st : List Value} {i : Int} {v : Int32} (hp : pc' = pc + 3) (hd : decode c.code pc = .ok (.sipush i, 3)) (hv : (Int16.ofInt i).toInt32 = v) (k : Go p e below F0 (T.setTop (mkF m pc' Ls (.int v :: st)))) : Go p e below F0 (T.setTop (mkF m pc Ls st)) := by
  subst hp
  exact Go.step (fun t kt => XS.sipush X.here hx (g := mkF m pc Ls _) rfl hd (by rw [hv]; exact kt)) k
theorem Go.iand (X : Stand p l e R s m args below meth c T locs cells slots) (hx : p.tables.exec = Jvm.exec) {pc pc' : Nat} {Ls : Array Slot} {x y : Int32} {rest : List Value} (hp : pc' = pc + 1) (hd : decode c.code pc = .ok (.iand, 1))  (k : Go p e below F0 (T.setTop (mkF m pc' Ls (.int (x &&& y) :: rest)))) : Go p e below F0 (T.setTop (mkF m pc Ls (.int y :: .int x :: rest))) := by
  subst hp
  exact Go.step (fun t kt => XS.iand X.here hx (g := mkF m pc Ls _) rfl hd rfl kt) k
theorem Go.idiv (X : Stand p l e R s m args below meth c T locs cells slots) (hx : p.tables.exec = Jvm.exec) {pc pc' : Nat} {Ls : Array Slot} {x y : Int32} {rest : List Value} (hp : pc' = pc + 1) (hd : decode c.code pc = .ok (.idiv, 1)) (hy : y ≠ 0) (k : Go p e below F0 (T.setTop (mkF m pc' Ls (.int (x / y) :: rest)))) : Go p e below F0 (T.setTop (mkF m pc Ls (.int y :: .int x :: rest))) := by
  subst hp
  exact Go.step (fun t kt => XS.idiv X.here hx (g := mkF m pc Ls _) rfl hd rfl hy kt) k
theorem Go.dup (X : Stand p l e R s m args below meth c T locs cells slots) (hx : p.tables.exec = Jvm.exec) {pc pc' : Nat} {Ls : Array Slot} {x : Value} {rest : List Value} (hp : pc' = pc + 1) (hd : decode c.code pc = .ok (.dup, 1)) (hc : x.category = 1) (k : Go p e below F0 (T.setTop (mkF m pc' Ls (x :: x :: rest)))) : Go p e below F0 (T.setTop (mkF m pc Ls (x :: rest))) := by
  subst hp
  exact Go.step (fun t kt => XS.dup X.here hx (g := mkF m pc Ls _) rfl hd rfl hc kt) k
theorem Go.istoreN (X : Stand p l e R s m args below meth c T locs cells slots) (hx : p.tables.exec = Jvm.exec) {pc pc' : Nat} {Ls : Array Slot} {k : Fin 4} {x : Int32} {rest : List Value} {Ls' : Array Slot} (hp : pc' = pc + 1) (hd : decode c.code pc = .ok (.istore_n k, 1)) (hl : storeLocals Ls k.val (.int x) = some Ls') (k : Go p e below F0 (T.setTop (mkF m pc' Ls' rest))) : Go p e below F0 (T.setTop (mkF m pc Ls (.int x :: rest))) := by
  subst hp
  exact Go.step (fun t kt => XS.istoreN X.here hx (g := mkF m pc Ls _) rfl hd rfl hl kt) k
theorem Go.astoreN (X : Stand p l e R s m args below meth c T locs cells slots) (hx : p.tables.exec = Jvm.exec) {pc pc' : Nat} {Ls : Array Slot} {k : Fin 4} {x : Value} {rest : List Value} {Ls' : Array Slot} (hp : pc' = pc + 1) (hd : decode c.code pc = .ok (.astore_n k, 1)) (hv : x.isRef = true) (hl : storeLocals Ls k.val x = some Ls') (k : Go p e below F0 (T.setTop (mkF m pc' Ls' rest))) : Go p e below F0 (T.setTop (mkF m pc Ls (x :: rest))) := by
  subst hp
  exact Go.step (fun t kt => XS.astoreN X.here hx (g := mkF m pc Ls _) rfl hd rfl hv hl kt) k
theorem Go.goto (X : Stand p l e R s m args below meth c T locs cells slots) (hx : p.tables.exec = Jvm.exec) {pc pc' : Nat} {Ls : Array Slot} {o : Int} {st : List Value} (hd : decode c.code pc = .ok (.goto o, 3))  (ho : 0 ≤ (pc : Int) + o) (hp : ((pc : Int) + o).toNat = pc') (k : Go p e below F0 (T.setTop (mkF m pc' Ls st))) : Go p e below F0 (T.setTop (mkF m pc Ls st)) :=
  Go.step (fun t kt => XS.goto X.here hx (g := mkF m pc Ls _) rfl rfl hd ho hp kt) k
theorem Go.ifYes (X : Stand p l e R s m args below meth c T locs cells slots) (hx : p.tables.exec = Jvm.exec) {pc pc' : Nat} {Ls : Array Slot} {o : Int} {cd : ClassFile.Cond} {x : Int32} {rest : List Value} (hd : decode c.code pc = .ok (.ifCond cd o, 3)) (hc : if_icmp.holds cd x 0 = true) (ho : 0 ≤ (pc : Int) + o) (hp : ((pc : Int) + o).toNat = pc') (k : Go p e below F0 (T.setTop (mkF m pc' Ls rest))) : Go p e below F0 (T.setTop (mkF m pc Ls (.int x :: rest))) :=
  Go.step (fun t kt => XS.ifYes X.here hx (g := mkF m pc Ls _) rfl rfl hd rfl ((if0 _ _).trans hc) ho hp kt) k
theorem Go.icmpYes (X : Stand p l e R s m args below meth c T locs cells slots) (hx : p.tables.exec = Jvm.exec) {pc pc' : Nat} {Ls : Array Slot} {o : Int} {cd : ClassFile.Cond} {x y : Int32} {rest : List Value} (hd : decode c.code pc = .ok (.if_icmp cd o, 3)) (hc : if_icmp.holds cd x y = true) (ho : 0 ≤ (pc : Int) + o) (hp : ((pc : Int) + o).toNat = pc') (k : Go p e below F0 (T.setTop (mkF m pc' Ls rest))) : Go p e below F0 (T.setTop (mkF m pc Ls (.int y :: .int x :: rest))) :=
  Go.step (fun t kt => XS.icmpYes X.here hx (g := mkF m pc Ls _) rfl rfl hd rfl hc ho hp kt) k
theorem Go.ifNo (X : Stand p l e R s m args below meth c T locs cells slots) (hx : p.tables.exec = Jvm.exec) {pc pc' : Nat} {Ls : Array Slot} {o : Int} {cd : ClassFile.Cond} {x : Int32} {rest : List Value} (hp : pc' = pc + 3) (hd : decode c.code pc = .ok (.ifCond cd o, 3)) (hc : if_icmp.holds cd x 0 = false) (k : Go p e below F0 (T.setTop (mkF m pc' Ls rest))) : Go p e below F0 (T.setTop (mkF m pc Ls (.int x :: rest))) := by
  subst hp
  exact Go.step (fun t kt => XS.ifNo X.here hx (g := mkF m pc Ls _) rfl hd rfl ((if0 _ _).trans hc) kt) k
theorem Go.icmpNo (X : Stand p l e R s m args below meth c T locs cells slots) (hx : p.tables.exec = Jvm.exec) {pc pc' : Nat} {Ls : Array Slot} {o : Int} {cd : ClassFile.Cond} {x y : Int32} {rest : List Value} (hp : pc' = pc + 3) (hd : decode c.code pc = .ok (.if_icmp cd o, 3)) (hc : if_icmp.holds cd x y = false) (k : Go p e below F0 (T.setTop (mkF m pc' Ls rest))) : Go p e below F0 (T.setTop (mkF m pc Ls (.int y :: .int x :: rest))) := by
  subst hp
  exact Go.step (fun t kt => XS.icmpNo X.here hx (g := mkF m pc Ls _) rfl hd rfl hc kt) k
theorem Go.acmp (X : Stand p l e R s m args below meth c T locs cells slots) (hx : p.tables.exec = Jvm.exec) {pc pc' : Nat} {Ls : Array Slot} {cd : ACond} {x y : Value} {rest : List Value} {o : Int} {same : Bool} (hd : decode c.code pc = .ok (.if_acmp cd o, 3)) (h1 : x.isRef = true) (h2 : y.isRef = true) (hq : decide (x = y) = same) (ho : 0 ≤ (pc : Int) + o) (hp : pc' = if acV cd same = true then ((pc : Int) + o).toNat else pc + 3) (k : Go p e below F0 (T.setTop (mkF m pc' Ls rest))) : Go p e below F0 (T.setTop (mkF m pc Ls (y :: x :: rest))) :=
  Go.step (fun t kt => Jvm.RoadKit.acmp (g := mkF m pc Ls _) X hx rfl h1 h2 rfl hd rfl hq ho hp kt) k
theorem Go.getS (X : Stand p l e R s m args below meth c T locs cells slots) (hx : p.tables.exec = Jvm.exec) (hZ : Z.Warmed39 s.vm) {own : String} {index : Nat} (hown : s.vm.findClass own = some m.cls) {R0 O n d host : String} (wl : (Jvm.Cond.fieldLink own index R0 n d).before a0 Z = true ∨ (Jvm.Cond.fieldLinkNest own index R0 n d host).before a0 Z = true) (via : Via Z R0 O n d) (eT : T.heap = h) {v : Value} (F : Sta Z h O n d v) {pc pc' : Nat} {Ls : Array Slot} {rest : List Value} (hp : pc' = pc + 3) (hd : decode c.code pc = .ok (.getstatic index, 3))
    (k : ∀ T', T'.heap = h → Stand p l e R s m args below meth c T' locs cells slots → Go p e below F0 (T'.setTop (mkF m pc' Ls (v :: rest)))) : Go p e below F0 (T.setTop (mkF m pc Ls rest)) := by
  subst hp
  obtain ⟨T', X', e', st⟩ := Jvm.RoadKit.getS2 X hx hZ hown wl via eT F (g := mkF m pc Ls rest) rfl hd
  exact Go.step st (k T' e' X')
theorem Go.new (X : Stand p l e R s m args below meth c T locs cells slots) (hx : p.tables.exec = Jvm.exec) (hZ : Z.Warmed39 s.vm) {own : String} {index : Nat} (hown : s.vm.findClass own = some m.cls) {C : String} {n : Nat} (wl : (Jvm.Cond.classLink own index C).before a0 Z = true) (wi : (Jvm.Cond.instantiable C n).before a0 Z = true) (wz : (Jvm.Cond.initialized C).before a0 Z = true) (eT : T.heap = h) (hc : cells + 1 ≤ R.cells) (hl : slots + n ≤ R.slots) {pc pc' : Nat} {Ls : Array Slot} {rest : List Value} (hp : pc' = pc + 3) (hd : decode c.code pc = .ok (.new index, 3))
    (k : ∀ T' h' a, T'.heap = h' → Ext h h' → a = h.size → Exa Z h' a C → (∀ {O nm d : String} {ty : FieldType}, Laid Z a0 C O nm d → parseFieldDescriptor d = some ty → Fld Z h' a O nm d (defaultValue ty)) → Stand p l e R s m args below meth c T' locs (cells + 1) (slots + n) → Go p e below F0 (T'.setTop (mkF m pc' Ls (.ref a :: rest)))) : Go p e below F0 (T.setTop (mkF m pc Ls rest)) := by
  subst hp
  obtain ⟨T', h', X', e', E, A, D, -, st⟩ := newO X hx hZ hown wl wi wz eT (g := mkF m pc Ls rest) rfl hd hc hl
  exact Go.step st (k T' h' h.size e' E rfl A D X')
theorem Go.newarray (X : Stand p l e R s m args below meth c T locs cells slots) (hx : p.tables.exec = Jvm.exec) (hZ : Z.Warmed39 s.vm) {aty : ArrayType} {ty : FieldType} (hty : newarray.typeOf aty = ty) (wa : (Jvm.Cond.arrayClass ty).before a0 Z = true) (eT : T.heap = h) {n : Int32} (hn : ¬ n < 0) {cap : Nat} (hcap : n.toNatClampNeg ≤ cap) (hb : cap * 8 ≤ 536870912) (hc : cells + 1 ≤ R.cells) (hl : slots + cap ≤ R.slots) {ad : String} (had : "[" ++ ty.toString = ad) (N : Nat) {pc pc' : Nat} {Ls : Array Slot} {rest : List Value} (hp : pc' = pc + 2) (hd : decode c.code pc = .ok (.newarray aty, 2))
    (k : ∀ T' h' a kk, T'.heap = h' → Ext h h' → a = h.size → Arv Z h' a kk ty n (List.replicate N (defaultValue ty)) (defaultValue ty) → Exa Z h' a ad → Stand p l e R s m args below meth c T' locs (cells + 1) (slots + cap) → Go p e below F0 (T'.setTop (mkF m pc' Ls (.ref a :: rest)))) : Go p e below F0 (T.setTop (mkF m pc Ls (.int n :: rest))) := by
  subst hp hty
  obtain ⟨T', h', cA, X', e', E, A, Ex, st⟩ := newPE X hx hZ wa eT (g := mkF m pc Ls (.int n :: rest)) rfl hd rfl hn hcap hb hc hl had
  exact Go.step st (k T' h' h.size cA e' E rfl ((Arv.new A hn).pad (pad_rep [] _ N)) Ex X')
theorem Go.iastore (X : Stand p l e R s m args below meth c T locs cells slots) (hx : p.tables.exec = Jvm.exec) (hZ : Z.Warmed39 s.vm) (eT : T.heap = h) {a : Addr} {kk : ClassId} {z : Int32} {vs : List Value} {dv : Value} (V : Arv Z h a kk .int z vs dv) {j : Int32} {x : Int32} (hj : ¬ j < 0 ∧ j < z) (i : Nat) (hi : j.toNatClampNeg = i) (hl : i < vs.length) {pc pc' : Nat} {Ls : Array Slot} {rest : List Value} (hp : pc' = pc + 1) (hd : decode c.code pc = .ok (.iastore, 1))
    (k : ∀ T' h', T'.heap = h' → Wr h h' a j.toNatClampNeg (.int x) → Arv Z h' a kk .int z (vs.set i (.int x)) dv → Stand p l e R s m args below meth c T' (locs ++ [⟨a, j.toNatClampNeg⟩]) cells slots → Go p e below F0 (T'.setTop (mkF m pc' Ls rest))) : Go p e below F0 (T.setTop (mkF m pc Ls (.int x :: .int j :: .ref a :: rest))) := by
  subst hp
  obtain ⟨cl, A, q1, S, q3, H, G⟩ := V
  obtain ⟨T', h', X', e', W, st⟩ := stI X hx hZ eT A (j := j) (x := x) (inb_of S hj) (g := mkF m pc Ls (.int x :: .int j :: .ref a :: rest)) rfl rfl hd
  exact Go.step st (k T' h' e' W (Arv.set A q1 S q3 H G rfl W i hi hl) X')
theorem Go.iaload (X : Stand p l e R s m args below meth c T locs cells slots) (hx : p.tables.exec = Jvm.exec) (hZ : Z.Warmed39 s.vm) (eT : T.heap = h) {a : Addr} {kk : ClassId} {z : Int32} {vs : List Value} {dv : Value} (V : Arv Z h a kk .int z vs dv) {j : Int32} {v : Value} (hj : ¬ j < 0 ∧ j < z) (hv : vs.getD j.toNatClampNeg dv = v) {pc pc' : Nat} {Ls : Array Slot} {rest : List Value} (hp : pc' = pc + 1) (hd : decode c.code pc = .ok (.iaload, 1)) (k : Go p e below F0 (T.setTop (mkF m pc' Ls (v :: rest)))) : Go p e below F0 (T.setTop (mkF m pc Ls (.int j :: .ref a :: rest))) := by
  subst hp
  obtain ⟨cl, A, q1, S, q3, H, G⟩ := V
  exact Go.step (fun t kt => X.iaload hx (j := j) (v := v) (by rw [eT]; exact A.1) (State.isArrayOf_alike hZ.alike A.2.1) A.2.2 (inb_of S hj) (H.at (inb_of S hj) hv) (g := mkF m pc Ls (.int j :: .ref a :: rest)) rfl rfl hd t kt) k
theorem Go.callSB (X : Stand p l e R s m args below meth c T locs cells slots) (hx : p.tables.exec = Jvm.exec) (hZ : Z.Warmed39 s.vm) {own : String} {index : Nat} (hown : s.vm.findClass own = some m.cls) {y : MethodName} {bytes : ByteArray} {maxL : Nat} {ret : Option FieldType} (w1 : (Jvm.Cond.methodLink own index y).before a0 Z = true) (w2 : (Jvm.Cond.static y).before a0 Z = true) (w3 : (Jvm.Cond.initialized y.cls).before a0 Z = true) (w4 : (Jvm.Cond.code y bytes maxL ret).before a0 Z = true) (hy : y.cls ≠ "java/lang/invoke/MethodHandle" ∧ y.cls ≠ "java/lang/invoke/VarHandle") {W : Nat} {Pre : Pt → Array Value → Prop} {Post : Pt → Array Value → Option Value → Pt → Prop} (hK : Back l R p e below s args y 3 W Pre Post) (eT : T.heap = h)  {pc pc' : Nat} {Ls : Array Slot} {stk argsL rest : List Value} (hp : pc' = pc + 3) (hsz : Ls.size = c.maxLocals) (hlen : ∀ sig, parseMethodDescriptor y.desc = some sig → argsL.length = sig.parameters.length) (hst : stk = argsL.reverse ++ rest) (hW : (rest.map fun v => v.category).sum ≤ W) (hd : decode c.code pc = .ok (.invokestatic index, 3)) (hpre : ∀ vm₁, s.WarmedH vm₁ → Pre ⟨T.setVm vm₁, locs, cells, slots⟩ argsL.toArray)
    (k : ∀ (v : Option Value) (vm₁ : Vm) (T' : State) (locs' : List Loc) (cells' slots' : Nat), Stand p l e R s m args below meth c T' locs' cells' slots' → Post ⟨T.setVm vm₁, locs, cells, slots⟩ argsL.toArray v ⟨T', locs', cells', slots'⟩ → Go p e below F0 (T'.setTop (mkF m pc' Ls (v.toList ++ rest)))) : Go p e below F0 (T.setTop (mkF m pc Ls stk)) := by
  subst hp
  obtain ⟨v, vm₁, ⟨T', L', c', n'⟩, -, X', hP, st⟩ := Jvm.LawKit.callS X hx hown (mvT hZ w1) (mvT hZ w2) (mvT hZ w3) (mvT hZ w4) hy hK (g := mkF m pc Ls stk) rfl hsz hlen hst (by show 2 * 0 + _ ≤ _; rw [Nat.mul_zero, Nat.zero_add]; exact hW) hd hpre
  exact Go.step st (k v vm₁ T' L' c' n' X' hP)
theorem Go.callS (X : Stand p l e R s m args below meth c T locs cells slots) (hx : p.tables.exec = Jvm.exec) (hZ : Z.Warmed39 s.vm) {own : String} {index : Nat} (hown : s.vm.findClass own = some m.cls) {y : MethodName} {bytes : ByteArray} {maxL : Nat} {ret : Option FieldType} (w1 : (Jvm.Cond.methodLink own index y).before a0 Z = true) (w2 : (Jvm.Cond.static y).before a0 Z = true) (w3 : (Jvm.Cond.initialized y.cls).before a0 Z = true) (w4 : (Jvm.Cond.code y bytes maxL ret).before a0 Z = true) (hy : y.cls ≠ "java/lang/invoke/MethodHandle" ∧ y.cls ≠ "java/lang/invoke/VarHandle") {rm : Room} {Qc : Option Value → Heap → List Loc → Prop}  (wc : (Jvm.Cond.code y bytes maxL ret).before a0 Z = true) (wz : (Jvm.Cond.initialized y.cls).before a0 Z = true) {as : Array Value} (hC : Ctr l Z y bytes maxL ret rm as h Qc) (eT : T.heap = h)  {pc pc' : Nat} {Ls : Array Slot} {stk argsL rest : List Value} (hp : pc' = pc + 3) (hsz : Ls.size = c.maxLocals) (hlen : ∀ sig, parseMethodDescriptor y.desc = some sig → argsL.length = sig.parameters.length) (hst : stk = argsL.reverse ++ rest) (has : argsL.toArray = as) {W : Nat} (hW : (rest.map fun v => v.category).sum ≤ W) (hf : rm.frames + 1 ≤ R.frames) (hl : W + (maxL + 11) + rm.locals ≤ R.locals) (hc : cells + rm.cells ≤ R.cells) (hs : slots + rm.slots ≤ R.slots) (hd : decode c.code pc = .ok (.invokestatic index, 3))
    (k : ∀ (v : Option Value) (T' : State) (L : List Loc), Qc v T'.heap L → Stand p l e R s m args below meth c T' (locs ++ L) (cells + rm.cells) (slots + rm.slots) → Go p e below F0 (T'.setTop (mkF m pc' Ls (v.toList ++ rest)))) : Go p e below F0 (T.setTop (mkF m pc Ls stk)) :=
  Go.callSB X hx hZ hown w1 w2 w3 w4 hy (backOf (W := W) (hC []) hZ wc wz hf hl) eT  hp hsz hlen hst hW hd (fun _ _ => ⟨has, eT, hc, hs⟩) (fun v vm₁ T' locs' cells' slots' X' ⟨L, hq, h1, h2, h3⟩ => by
    try dsimp only at h1 h2 h3
    subst h1 h2 h3
    exact k v T' L hq X')
end OwnGo
end Jvm.RoadKit
namespace Jvm.Pilot.@@N@@
open Jvm Jvm.ClassFile Sem Op Lib Jvm.Free Jvm.Stand Jvm.LawKit Jvm.RoadKit Bundle Jvm.Pilot.@@N@@.Jvm.D
theorem tw_0 {Z : State} {a0 : Array Value} (hw : ∀ d ∈ tables_1, d.before a0 Z = true) : (Jvm.Cond.arrayClass Jvm.ClassFile.FieldType.int).before a0 Z = true := hw _ (List.mem_of_getElem? (i := 0) rfl)
theorem tw_1 {Z : State} {a0 : Array Value} (hw : ∀ d ∈ tables_1, d.before a0 Z = true) : (Jvm.Cond.methodLink "com/example/rockhopper/rockhopper/model/ExitCodeOfHttpStatusPinLaw" (28 : Nat) ({ cls := "com/example/rockhopper/rockhopper/model/ExitCode", name := "ofHttpStatus", desc := "(I)Lcom/example/rockhopper/rockhopper/model/ExitCode;" } : Jvm.MethodName)).before a0 Z = true := hw _ (List.mem_of_getElem? (i := 1) rfl)
theorem tw_2 {Z : State} {a0 : Array Value} (hw : ∀ d ∈ tables_1, d.before a0 Z = true) : (Jvm.Cond.static ({ cls := "com/example/rockhopper/rockhopper/model/ExitCode", name := "ofHttpStatus", desc := "(I)Lcom/example/rockhopper/rockhopper/model/ExitCode;" } : Jvm.MethodName)).before a0 Z = true := hw _ (List.mem_of_getElem? (i := 2) rfl)
theorem tw_3 {Z : State} {a0 : Array Value} (hw : ∀ d ∈ tables_1, d.before a0 Z = true) : (Jvm.Cond.initialized "com/example/rockhopper/rockhopper/model/ExitCode").before a0 Z = true := hw _ (List.mem_of_getElem? (i := 3) rfl)
theorem tw_4 {Z : State} {a0 : Array Value} (hw : ∀ d ∈ tables_1, d.before a0 Z = true) : (Jvm.Cond.code ({ cls := "com/example/rockhopper/rockhopper/model/ExitCode", name := "ofHttpStatus", desc := "(I)Lcom/example/rockhopper/rockhopper/model/ExitCode;" } : Jvm.MethodName) prog_6_method_4_code (1 : Nat) (Option.some (Jvm.ClassFile.FieldType.object "com/example/rockhopper/rockhopper/model/ExitCode"))).before a0 Z = true := hw _ (List.mem_of_getElem? (i := 4) rfl)
theorem tw_5 {Z : State} {a0 : Array Value} (hw : ∀ d ∈ tables_1, d.before a0 Z = true) : (Jvm.Cond.fieldLink "com/example/rockhopper/rockhopper/model/ExitCode" (10 : Nat) "com/example/rockhopper/rockhopper/model/ExitCode" "REDIRECT" "Lcom/example/rockhopper/rockhopper/model/ExitCode;").before a0 Z = true := hw _ (List.mem_of_getElem? (i := 5) rfl)
theorem tw_6 {Z : State} {a0 : Array Value} (hw : ∀ d ∈ tables_1, d.before a0 Z = true) : (Jvm.Cond.laysStatic "com/example/rockhopper/rockhopper/model/ExitCode" "REDIRECT" "Lcom/example/rockhopper/rockhopper/model/ExitCode;").before a0 Z = true := hw _ (List.mem_of_getElem? (i := 6) rfl)
theorem tw_7 {Z : State} {a0 : Array Value} (hw : ∀ d ∈ tables_1, d.before a0 Z = true) : (Jvm.Cond.methodLink "com/example/rockhopper/rockhopper/model/ExitCodeOfHttpStatusPinLaw" (32 : Nat) ({ cls := "com/example/rockhopper/rockhopper/model/ExitCodeOfHttpStatusPinLaw", name := "expected", desc := "(I)Lcom/example/rockhopper/rockhopper/model/ExitCode;" } : Jvm.MethodName)).before a0 Z = true := hw _ (List.mem_of_getElem? (i := 7) rfl)
theorem tw_8 {Z : State} {a0 : Array Value} (hw : ∀ d ∈ tables_1, d.before a0 Z = true) : (Jvm.Cond.static ({ cls := "com/example/rockhopper/rockhopper/model/ExitCodeOfHttpStatusPinLaw", name := "expected", desc := "(I)Lcom/example/rockhopper/rockhopper/model/ExitCode;" } : Jvm.MethodName)).before a0 Z = true := hw _ (List.mem_of_getElem? (i := 8) rfl)
theorem tw_9 {Z : State} {a0 : Array Value} (hw : ∀ d ∈ tables_1, d.before a0 Z = true) : (Jvm.Cond.initialized "com/example/rockhopper/rockhopper/model/ExitCodeOfHttpStatusPinLaw").before a0 Z = true := hw _ (List.mem_of_getElem? (i := 9) rfl)
theorem tw_10 {Z : State} {a0 : Array Value} (hw : ∀ d ∈ tables_1, d.before a0 Z = true) : (Jvm.Cond.code ({ cls := "com/example/rockhopper/rockhopper/model/ExitCodeOfHttpStatusPinLaw", name := "expected", desc := "(I)Lcom/example/rockhopper/rockhopper/model/ExitCode;" } : Jvm.MethodName) method_2_code (2 : Nat) (Option.some (Jvm.ClassFile.FieldType.object "com/example/rockhopper/rockhopper/model/ExitCode"))).before a0 Z = true := hw _ (List.mem_of_getElem? (i := 10) rfl)
theorem tw_11 {Z : State} {a0 : Array Value} (hw : ∀ d ∈ tables_1, d.before a0 Z = true) : (Jvm.Cond.fieldLink "com/example/rockhopper/rockhopper/model/ExitCodeOfHttpStatusPinLaw" (16 : Nat) "com/example/rockhopper/rockhopper/model/ExitCode" "REDIRECT" "Lcom/example/rockhopper/rockhopper/model/ExitCode;").before a0 Z = true := hw _ (List.mem_of_getElem? (i := 11) rfl)
theorem tw_12 {Z : State} {a0 : Array Value} (hw : ∀ d ∈ tables_1, d.before a0 Z = true) : (Jvm.Cond.fieldLink "com/example/rockhopper/rockhopper/model/ExitCode" (3 : Nat) "com/example/rockhopper/rockhopper/model/ExitCode" "OK" "Lcom/example/rockhopper/rockhopper/model/ExitCode;").before a0 Z = true := hw _ (List.mem_of_getElem? (i := 12) rfl)
theorem tw_13 {Z : State} {a0 : Array Value} (hw : ∀ d ∈ tables_1, d.before a0 Z = true) : (Jvm.Cond.laysStatic "com/example/rockhopper/rockhopper/model/ExitCode" "OK" "Lcom/example/rockhopper/rockhopper/model/ExitCode;").before a0 Z = true := hw _ (List.mem_of_getElem? (i := 13) rfl)
theorem tw_14 {Z : State} {a0 : Array Value} (hw : ∀ d ∈ tables_1, d.before a0 Z = true) : (Jvm.Cond.fieldLink "com/example/rockhopper/rockhopper/model/ExitCodeOfHttpStatusPinLaw" (7 : Nat) "com/example/rockhopper/rockhopper/model/ExitCode" "OK" "Lcom/example/rockhopper/rockhopper/model/ExitCode;").before a0 Z = true := hw _ (List.mem_of_getElem? (i := 14) rfl)
theorem tw_15 {Z : State} {a0 : Array Value} (hw : ∀ d ∈ tables_1, d.before a0 Z = true) : (Jvm.Cond.fieldLink "com/example/rockhopper/rockhopper/model/ExitCode" (16 : Nat) "com/example/rockhopper/rockhopper/model/ExitCode" "HTTP_SERVER_ERROR" "Lcom/example/rockhopper/rockhopper/model/ExitCode;").before a0 Z = true := hw _ (List.mem_of_getElem? (i := 15) rfl)
theorem tw_16 {Z : State} {a0 : Array Value} (hw : ∀ d ∈ tables_1, d.before a0 Z = true) : (Jvm.Cond.laysStatic "com/example/rockhopper/rockhopper/model/ExitCode" "HTTP_SERVER_ERROR" "Lcom/example/rockhopper/rockhopper/model/ExitCode;").before a0 Z = true := hw _ (List.mem_of_getElem? (i := 16) rfl)
theorem tw_17 {Z : State} {a0 : Array Value} (hw : ∀ d ∈ tables_1, d.before a0 Z = true) : (Jvm.Cond.fieldLink "com/example/rockhopper/rockhopper/model/ExitCodeOfHttpStatusPinLaw" (25 : Nat) "com/example/rockhopper/rockhopper/model/ExitCode" "HTTP_SERVER_ERROR" "Lcom/example/rockhopper/rockhopper/model/ExitCode;").before a0 Z = true := hw _ (List.mem_of_getElem? (i := 17) rfl)
theorem tw_18 {Z : State} {a0 : Array Value} (hw : ∀ d ∈ tables_1, d.before a0 Z = true) : (Jvm.Cond.fieldLink "com/example/rockhopper/rockhopper/model/ExitCode" (7 : Nat) "com/example/rockhopper/rockhopper/model/ExitCode" "NOT_MODIFIED" "Lcom/example/rockhopper/rockhopper/model/ExitCode;").before a0 Z = true := hw _ (List.mem_of_getElem? (i := 18) rfl)
theorem tw_19 {Z : State} {a0 : Array Value} (hw : ∀ d ∈ tables_1, d.before a0 Z = true) : (Jvm.Cond.laysStatic "com/example/rockhopper/rockhopper/model/ExitCode" "NOT_MODIFIED" "Lcom/example/rockhopper/rockhopper/model/ExitCode;").before a0 Z = true := hw _ (List.mem_of_getElem? (i := 19) rfl)
theorem tw_20 {Z : State} {a0 : Array Value} (hw : ∀ d ∈ tables_1, d.before a0 Z = true) : (Jvm.Cond.fieldLink "com/example/rockhopper/rockhopper/model/ExitCodeOfHttpStatusPinLaw" (13 : Nat) "com/example/rockhopper/rockhopper/model/ExitCode" "NOT_MODIFIED" "Lcom/example/rockhopper/rockhopper/model/ExitCode;").before a0 Z = true := hw _ (List.mem_of_getElem? (i := 20) rfl)
theorem tw_21 {Z : State} {a0 : Array Value} (hw : ∀ d ∈ tables_1, d.before a0 Z = true) : (Jvm.Cond.fieldLink "com/example/rockhopper/rockhopper/model/ExitCode" (19 : Nat) "com/example/rockhopper/rockhopper/model/ExitCode" "RATE_LIMITED" "Lcom/example/rockhopper/rockhopper/model/ExitCode;").before a0 Z = true := hw _ (List.mem_of_getElem? (i := 21) rfl)
theorem tw_22 {Z : State} {a0 : Array Value} (hw : ∀ d ∈ tables_1, d.before a0 Z = true) : (Jvm.Cond.laysStatic "com/example/rockhopper/rockhopper/model/ExitCode" "RATE_LIMITED" "Lcom/example/rockhopper/rockhopper/model/ExitCode;").before a0 Z = true := hw _ (List.mem_of_getElem? (i := 22) rfl)
theorem tw_23 {Z : State} {a0 : Array Value} (hw : ∀ d ∈ tables_1, d.before a0 Z = true) : (Jvm.Cond.fieldLink "com/example/rockhopper/rockhopper/model/ExitCodeOfHttpStatusPinLaw" (19 : Nat) "com/example/rockhopper/rockhopper/model/ExitCode" "RATE_LIMITED" "Lcom/example/rockhopper/rockhopper/model/ExitCode;").before a0 Z = true := hw _ (List.mem_of_getElem? (i := 23) rfl)
theorem tw_24 {Z : State} {a0 : Array Value} (hw : ∀ d ∈ tables_1, d.before a0 Z = true) : (Jvm.Cond.fieldLink "com/example/rockhopper/rockhopper/model/ExitCode" (13 : Nat) "com/example/rockhopper/rockhopper/model/ExitCode" "HTTP_CLIENT_ERROR" "Lcom/example/rockhopper/rockhopper/model/ExitCode;").before a0 Z = true := hw _ (List.mem_of_getElem? (i := 24) rfl)
theorem tw_25 {Z : State} {a0 : Array Value} (hw : ∀ d ∈ tables_1, d.before a0 Z = true) : (Jvm.Cond.laysStatic "com/example/rockhopper/rockhopper/model/ExitCode" "HTTP_CLIENT_ERROR" "Lcom/example/rockhopper/rockhopper/model/ExitCode;").before a0 Z = true := hw _ (List.mem_of_getElem? (i := 25) rfl)
theorem tw_26 {Z : State} {a0 : Array Value} (hw : ∀ d ∈ tables_1, d.before a0 Z = true) : (Jvm.Cond.fieldLink "com/example/rockhopper/rockhopper/model/ExitCodeOfHttpStatusPinLaw" (22 : Nat) "com/example/rockhopper/rockhopper/model/ExitCode" "HTTP_CLIENT_ERROR" "Lcom/example/rockhopper/rockhopper/model/ExitCode;").before a0 Z = true := hw _ (List.mem_of_getElem? (i := 26) rfl)
section OwnStart
variable {args : Array Value} {first s : State} {o : Option Outcome} {idx : List Nat} {t : Term}
theorem own_lt {x y : Int32} {a b : Int} (h : x < y) (ha : x.toInt = a) (hb : y.toInt = b) : a < b := by subst ha hb; exact Int32.lt_iff_toInt_lt.mp h
theorem own_nlt {x y : Int32} {a b : Int} (h : ¬ x < y) (ha : x.toInt = a) (hb : y.toInt = b) : b ≤ a := by subst ha hb; rw [Int32.lt_iff_toInt_lt] at h; omega
theorem own_ieq {x y : Int32} {a b : Int} (h : x = y) (ha : x.toInt = a) (hb : y.toInt = b) : a = b := by subst ha hb h; rfl
theorem own_ine {x y : Int32} {a b : Int} (h : ¬ x = y) (ha : x.toInt = a) (hb : y.toInt = b) : a ≠ b := by subst ha hb; exact fun q => h (Int32.toInt_inj.mp q)
end OwnStart

def Glob (Z : State) (aok : Addr) (anm : Addr) (ard : Addr) (arl : Addr) (ace : Addr) (ase : Addr) : Prop := Sta Z Z.heap "com/example/rockhopper/rockhopper/model/ExitCode" "OK" "Lcom/example/rockhopper/rockhopper/model/ExitCode;" (.ref aok) ∧ Sta Z Z.heap "com/example/rockhopper/rockhopper/model/ExitCode" "NOT_MODIFIED" "Lcom/example/rockhopper/rockhopper/model/ExitCode;" (.ref anm) ∧ Sta Z Z.heap "com/example/rockhopper/rockhopper/model/ExitCode" "REDIRECT" "Lcom/example/rockhopper/rockhopper/model/ExitCode;" (.ref ard) ∧ Sta Z Z.heap "com/example/rockhopper/rockhopper/model/ExitCode" "RATE_LIMITED" "Lcom/example/rockhopper/rockhopper/model/ExitCode;" (.ref arl) ∧ Sta Z Z.heap "com/example/rockhopper/rockhopper/model/ExitCode" "HTTP_CLIENT_ERROR" "Lcom/example/rockhopper/rockhopper/model/ExitCode;" (.ref ace) ∧ Sta Z Z.heap "com/example/rockhopper/rockhopper/model/ExitCode" "HTTP_SERVER_ERROR" "Lcom/example/rockhopper/rockhopper/model/ExitCode;" (.ref ase)
theorem own_getDI (l : List Int32) (n : Nat) (d : Int32) : (l.map Value.int).getD n (.int d) = .int (l.getD n d) := by
  induction l generalizing n with
  | nil => rfl
  | cons a r ih => cases n with
    | zero => rfl
    | succ k => exact ih k
theorem own_in {j z : Int32} {n : Int} (h1 : 0 ≤ j.toInt) (h2 : j.toInt < n) (hz : z.toInt = n) : ¬ j < 0 ∧ j < z := by
  constructor
  · rw [Int32.lt_iff_toInt_lt]; show ¬ j.toInt < 0; omega
  · rw [Int32.lt_iff_toInt_lt, hz]; exact h2
def own_ec (n : Int) (aok anm ard arl ace ase : Addr) : Addr := if 200 ≤ n ∧ n < 300 then aok else if n = 304 then anm else if 300 ≤ n ∧ n < 400 then ard else if n = 429 ∨ n = 503 then arl else if 400 ≤ n ∧ n < 500 then ace else ase
theorem ef_1_I (m : MethodId) (x0 : Int32) : entryFrame m #[(.int x0)] 1 = mkF m 0 #[.val (.int x0)] [] := by first | (simp [entryFrame, mkF, argsToLocals, Value.category]; done) | rfl
theorem pn_c0 : plainName "com/example/rockhopper/rockhopper/model/ExitCode" = true := by first | (simp [plainName, overriddenIn]; done) | decide +kernel
theorem d1_0 : decode prog_6_method_4_code 0 = .ok (.iload_n 0, 1) := by decide +kernel
theorem d1_1 : decode prog_6_method_4_code 1 = .ok (.sipush 200, 3) := by decide +kernel
theorem d1_4 : decode prog_6_method_4_code 4 = .ok (.if_icmp .lt 14, 3) := by decide +kernel
theorem d1_18 : decode prog_6_method_4_code 18 = .ok (.iload_n 0, 1) := by decide +kernel
theorem d1_19 : decode prog_6_method_4_code 19 = .ok (.sipush 304, 3) := by decide +kernel
theorem d1_22 : decode prog_6_method_4_code 22 = .ok (.if_icmp .ne 7, 3) := by decide +kernel
theorem d1_25 : decode prog_6_method_4_code 25 = .ok (.getstatic 7, 3) := by decide +kernel
theorem d1_28 : decode prog_6_method_4_code 28 = .ok (.areturn, 1) := by decide +kernel
theorem d1_29 : decode prog_6_method_4_code 29 = .ok (.iload_n 0, 1) := by decide +kernel
theorem d1_30 : decode prog_6_method_4_code 30 = .ok (.sipush 300, 3) := by decide +kernel
theorem d1_33 : decode prog_6_method_4_code 33 = .ok (.if_icmp .lt 14, 3) := by decide +kernel
theorem d1_47 : decode prog_6_method_4_code 47 = .ok (.iload_n 0, 1) := by decide +kernel
theorem d1_48 : decode prog_6_method_4_code 48 = .ok (.sipush 429, 3) := by decide +kernel
theorem d1_51 : decode prog_6_method_4_code 51 = .ok (.if_icmp .eq 10, 3) := by decide +kernel
theorem d1_61 : decode prog_6_method_4_code 61 = .ok (.getstatic 19, 3) := by decide +kernel
theorem d1_64 : decode prog_6_method_4_code 64 = .ok (.areturn, 1) := by decide +kernel
theorem d1_54 : decode prog_6_method_4_code 54 = .ok (.iload_n 0, 1) := by decide +kernel
theorem d1_55 : decode prog_6_method_4_code 55 = .ok (.sipush 503, 3) := by decide +kernel
theorem d1_58 : decode prog_6_method_4_code 58 = .ok (.if_icmp .ne 7, 3) := by decide +kernel
theorem d1_65 : decode prog_6_method_4_code 65 = .ok (.iload_n 0, 1) := by decide +kernel
theorem d1_66 : decode prog_6_method_4_code 66 = .ok (.sipush 400, 3) := by decide +kernel
theorem d1_69 : decode prog_6_method_4_code 69 = .ok (.if_icmp .lt 14, 3) := by decide +kernel
theorem d1_83 : decode prog_6_method_4_code 83 = .ok (.getstatic 16, 3) := by decide +kernel
theorem d1_86 : decode prog_6_method_4_code 86 = .ok (.areturn, 1) := by decide +kernel
theorem d1_72 : decode prog_6_method_4_code 72 = .ok (.iload_n 0, 1) := by decide +kernel
theorem d1_73 : decode prog_6_method_4_code 73 = .ok (.sipush 500, 3) := by decide +kernel
theorem d1_76 : decode prog_6_method_4_code 76 = .ok (.if_icmp .ge 7, 3) := by decide +kernel
theorem d1_79 : decode prog_6_method_4_code 79 = .ok (.getstatic 13, 3) := by decide +kernel
theorem d1_82 : decode prog_6_method_4_code 82 = .ok (.areturn, 1) := by decide +kernel
theorem d1_36 : decode prog_6_method_4_code 36 = .ok (.iload_n 0, 1) := by decide +kernel
theorem d1_37 : decode prog_6_method_4_code 37 = .ok (.sipush 400, 3) := by decide +kernel
theorem d1_40 : decode prog_6_method_4_code 40 = .ok (.if_icmp .ge 7, 3) := by decide +kernel
theorem d1_43 : decode prog_6_method_4_code 43 = .ok (.getstatic 10, 3) := by decide +kernel
theorem d1_46 : decode prog_6_method_4_code 46 = .ok (.areturn, 1) := by decide +kernel
theorem d1_7 : decode prog_6_method_4_code 7 = .ok (.iload_n 0, 1) := by decide +kernel
theorem d1_8 : decode prog_6_method_4_code 8 = .ok (.sipush 300, 3) := by decide +kernel
theorem d1_11 : decode prog_6_method_4_code 11 = .ok (.if_icmp .ge 7, 3) := by decide +kernel
theorem d1_14 : decode prog_6_method_4_code 14 = .ok (.getstatic 3, 3) := by decide +kernel
theorem d1_17 : decode prog_6_method_4_code 17 = .ok (.areturn, 1) := by decide +kernel
set_option maxRecDepth 65536 in
set_option maxHeartbeats 4000000 in
theorem rm_of (l : Launch) (Z : State) (a0 : Array Value) (hw : ∀ d ∈ tables_1, d.before a0 Z = true) (p0 : Int32) (aok : Addr) (anm : Addr) (ard : Addr) (arl : Addr) (ace : Addr) (ase : Addr) (h0 : Heap) (n0 : Nat) (Z0 : n0 ≤ h0.size) (O0 : Old Z n0 h0) (G : Glob Z aok anm ard arl ace ase) :
    Ctr l Z (⟨"com/example/rockhopper/rockhopper/model/ExitCode", "ofHttpStatus", "(I)Lcom/example/rockhopper/rockhopper/model/ExitCode;"⟩ : MethodName) prog_6_method_4_code 1 (some (.object "com/example/rockhopper/rockhopper/model/ExitCode")) ({ frames := 0, cells := 0, slots := 0, locals := 0 } : Room) #[(.int p0)] h0 (fun v h L => v = some (.ref (own_ec p0.toInt aok anm ard arl ace ase)) ∧ L = [] ∧ h = h0) := by
  refine Ctr.of (plainFor_of_name pn_c0) ?_
  intro p e s m below meth c T0 hx hZ hby hml hown hnm hret hlk e0 es X0
  refine Go.cast (ef_1_I m p0) ?_
  have G' := G
  obtain ⟨G0, G1, G2, G3, G4, G5⟩ := G'
  refine Go.iloadN X0 hx (pc' := 1) rfl (hb hby d1_0) rfl ?_
  refine Go.sipush X0 hx (pc' := 4) rfl (hb hby d1_1) (v := (200 : Int32)) (by decide) ?_
  by_cases hc1 : p0 < (200 : Int32)
  · refine Go.icmpYes X0 hx (pc' := 18) (hb hby d1_4) (tlt hc1).1 (by decide) (by decide) ?_
    refine Go.iloadN X0 hx (pc' := 19) rfl (hb hby d1_18) rfl ?_
    refine Go.sipush X0 hx (pc' := 22) rfl (hb hby d1_19) (v := (304 : Int32)) (by decide) ?_
    by_cases hc2 : p0 = (304 : Int32)
    · refine Go.icmpNo X0 hx (pc' := 25) rfl (hb hby d1_22) (teq hc2).2 ?_
      have fk3 : Sta Z h0 "com/example/rockhopper/rockhopper/model/ExitCode" "NOT_MODIFIED" "Lcom/example/rockhopper/rockhopper/model/ExitCode;" (.ref anm) := G1.ext O0.2
      refine Go.getS X0 hx hZ hown (host := "") (Or.inl (tw_18 hw)) Via.refl e0 fk3 (pc' := 28) rfl (hb hby d1_25) ?_
      intro T4 e4 X4
      refine Go.retR X4 hx hlk (t := (.object "com/example/rockhopper/rockhopper/model/ExitCode")) hret rfl rfl (hb hby d1_28) (by decide) (by decide) ?_
      try rw [e4]
      have i_hc1 : p0.toInt < 200 := own_lt hc1 rfl (by decide)
      have i_hc2 : p0.toInt = 304 := own_ieq hc2 rfl (by decide)
      refine ⟨?_, rfl, rfl⟩
      unfold own_ec
      repeat' split
      all_goals first | rfl | (exfalso; omega)
    · refine Go.icmpYes X0 hx (pc' := 29) (hb hby d1_22) (feq hc2).2 (by decide) (by decide) ?_
      refine Go.iloadN X0 hx (pc' := 30) rfl (hb hby d1_29) rfl ?_
      refine Go.sipush X0 hx (pc' := 33) rfl (hb hby d1_30) (v := (300 : Int32)) (by decide) ?_
      by_cases hc5 : p0 < (300 : Int32)
      · refine Go.icmpYes X0 hx (pc' := 47) (hb hby d1_33) (tlt hc5).1 (by decide) (by decide) ?_
        refine Go.iloadN X0 hx (pc' := 48) rfl (hb hby d1_47) rfl ?_
        refine Go.sipush X0 hx (pc' := 51) rfl (hb hby d1_48) (v := (429 : Int32)) (by decide) ?_
        by_cases hc6 : p0 = (429 : Int32)
        · refine Go.icmpYes X0 hx (pc' := 61) (hb hby d1_51) (teq hc6).1 (by decide) (by decide) ?_
          have fk7 : Sta Z h0 "com/example/rockhopper/rockhopper/model/ExitCode" "RATE_LIMITED" "Lcom/example/rockhopper/rockhopper/model/ExitCode;" (.ref arl) := G3.ext O0.2
          refine Go.getS X0 hx hZ hown (host := "") (Or.inl (tw_21 hw)) Via.refl e0 fk7 (pc' := 64) rfl (hb hby d1_61) ?_
          intro T8 e8 X8
          refine Go.retR X8 hx hlk (t := (.object "com/example/rockhopper/rockhopper/model/ExitCode")) hret rfl rfl (hb hby d1_64) (by decide) (by decide) ?_
          try rw [e8]
          have i_hc1 : p0.toInt < 200 := own_lt hc1 rfl (by decide)
          have i_hc2 : p0.toInt ≠ 304 := own_ine hc2 rfl (by decide)
          have i_hc5 : p0.toInt < 300 := own_lt hc5 rfl (by decide)
          have i_hc6 : p0.toInt = 429 := own_ieq hc6 rfl (by decide)
          refine ⟨?_, rfl, rfl⟩
          unfold own_ec
          repeat' split
          all_goals first | rfl | (exfalso; omega)
        · refine Go.icmpNo X0 hx (pc' := 54) rfl (hb hby d1_51) (feq hc6).1 ?_
          refine Go.iloadN X0 hx (pc' := 55) rfl (hb hby d1_54) rfl ?_
          refine Go.sipush X0 hx (pc' := 58) rfl (hb hby d1_55) (v := (503 : Int32)) (by decide) ?_
          by_cases hc9 : p0 = (503 : Int32)
          · refine Go.icmpNo X0 hx (pc' := 61) rfl (hb hby d1_58) (teq hc9).2 ?_
            have fk10 : Sta Z h0 "com/example/rockhopper/rockhopper/model/ExitCode" "RATE_LIMITED" "Lcom/example/rockhopper/rockhopper/model/ExitCode;" (.ref arl) := G3.ext O0.2
            refine Go.getS X0 hx hZ hown (host := "") (Or.inl (tw_21 hw)) Via.refl e0 fk10 (pc' := 64) rfl (hb hby d1_61) ?_
            intro T11 e11 X11
            refine Go.retR X11 hx hlk (t := (.object "com/example/rockhopper/rockhopper/model/ExitCode")) hret rfl rfl (hb hby d1_64) (by decide) (by decide) ?_
            try rw [e11]
            have i_hc1 : p0.toInt < 200 := own_lt hc1 rfl (by decide)
            have i_hc2 : p0.toInt ≠ 304 := own_ine hc2 rfl (by decide)
            have i_hc5 : p0.toInt < 300 := own_lt hc5 rfl (by decide)
            have i_hc6 : p0.toInt ≠ 429 := own_ine hc6 rfl (by decide)
            have i_hc9 : p0.toInt = 503 := own_ieq hc9 rfl (by decide)
            refine ⟨?_, rfl, rfl⟩
            unfold own_ec
            repeat' split
            all_goals first | rfl | (exfalso; omega)
          · refine Go.icmpYes X0 hx (pc' := 65) (hb hby d1_58) (feq hc9).2 (by decide) (by decide) ?_
            refine Go.iloadN X0 hx (pc' := 66) rfl (hb hby d1_65) rfl ?_
            refine Go.sipush X0 hx (pc' := 69) rfl (hb hby d1_66) (v := (400 : Int32)) (by decide) ?_
            by_cases hc12 : p0 < (400 : Int32)
            · refine Go.icmpYes X0 hx (pc' := 83) (hb hby d1_69) (tlt hc12).1 (by decide) (by decide) ?_
              have fk13 : Sta Z h0 "com/example/rockhopper/rockhopper/model/ExitCode" "HTTP_SERVER_ERROR" "Lcom/example/rockhopper/rockhopper/model/ExitCode;" (.ref ase) := G5.ext O0.2
              refine Go.getS X0 hx hZ hown (host := "") (Or.inl (tw_15 hw)) Via.refl e0 fk13 (pc' := 86) rfl (hb hby d1_83) ?_
              intro T14 e14 X14
              refine Go.retR X14 hx hlk (t := (.object "com/example/rockhopper/rockhopper/model/ExitCode")) hret rfl rfl (hb hby d1_86) (by decide) (by decide) ?_
              try rw [e14]
              have i_hc1 : p0.toInt < 200 := own_lt hc1 rfl (by decide)
              have i_hc2 : p0.toInt ≠ 304 := own_ine hc2 rfl (by decide)
              have i_hc5 : p0.toInt < 300 := own_lt hc5 rfl (by decide)
              have i_hc6 : p0.toInt ≠ 429 := own_ine hc6 rfl (by decide)
              have i_hc9 : p0.toInt ≠ 503 := own_ine hc9 rfl (by decide)
              have i_hc12 : p0.toInt < 400 := own_lt hc12 rfl (by decide)
              refine ⟨?_, rfl, rfl⟩
              unfold own_ec
              repeat' split
              all_goals first | rfl | (exfalso; omega)
            · refine Go.icmpNo X0 hx (pc' := 72) rfl (hb hby d1_69) (flt hc12).1 ?_
              refine Go.iloadN X0 hx (pc' := 73) rfl (hb hby d1_72) rfl ?_
              refine Go.sipush X0 hx (pc' := 76) rfl (hb hby d1_73) (v := (500 : Int32)) (by decide) ?_
              by_cases hc15 : p0 < (500 : Int32)
              · refine Go.icmpNo X0 hx (pc' := 79) rfl (hb hby d1_76) (tlt hc15).2.1 ?_
                have fk16 : Sta Z h0 "com/example/rockhopper/rockhopper/model/ExitCode" "HTTP_CLIENT_ERROR" "Lcom/example/rockhopper/rockhopper/model/ExitCode;" (.ref ace) := G4.ext O0.2
                refine Go.getS X0 hx hZ hown (host := "") (Or.inl (tw_24 hw)) Via.refl e0 fk16 (pc' := 82) rfl (hb hby d1_79) ?_
                intro T17 e17 X17
                refine Go.retR X17 hx hlk (t := (.object "com/example/rockhopper/rockhopper/model/ExitCode")) hret rfl rfl (hb hby d1_82) (by decide) (by decide) ?_
                try rw [e17]
                have i_hc1 : p0.toInt < 200 := own_lt hc1 rfl (by decide)
                have i_hc2 : p0.toInt ≠ 304 := own_ine hc2 rfl (by decide)
                have i_hc5 : p0.toInt < 300 := own_lt hc5 rfl (by decide)
                have i_hc6 : p0.toInt ≠ 429 := own_ine hc6 rfl (by decide)
                have i_hc9 : p0.toInt ≠ 503 := own_ine hc9 rfl (by decide)
                have i_hc12 : 400 ≤ p0.toInt := own_nlt hc12 rfl (by decide)
                have i_hc15 : p0.toInt < 500 := own_lt hc15 rfl (by decide)
                refine ⟨?_, rfl, rfl⟩
                unfold own_ec
                repeat' split
                all_goals first | rfl | (exfalso; omega)
              · refine Go.icmpYes X0 hx (pc' := 83) (hb hby d1_76) (flt hc15).2.1 (by decide) (by decide) ?_
                have fk18 : Sta Z h0 "com/example/rockhopper/rockhopper/model/ExitCode" "HTTP_SERVER_ERROR" "Lcom/example/rockhopper/rockhopper/model/ExitCode;" (.ref ase) := G5.ext O0.2
                refine Go.getS X0 hx hZ hown (host := "") (Or.inl (tw_15 hw)) Via.refl e0 fk18 (pc' := 86) rfl (hb hby d1_83) ?_
                intro T19 e19 X19
                refine Go.retR X19 hx hlk (t := (.object "com/example/rockhopper/rockhopper/model/ExitCode")) hret rfl rfl (hb hby d1_86) (by decide) (by decide) ?_
                try rw [e19]
                have i_hc1 : p0.toInt < 200 := own_lt hc1 rfl (by decide)
                have i_hc2 : p0.toInt ≠ 304 := own_ine hc2 rfl (by decide)
                have i_hc5 : p0.toInt < 300 := own_lt hc5 rfl (by decide)
                have i_hc6 : p0.toInt ≠ 429 := own_ine hc6 rfl (by decide)
                have i_hc9 : p0.toInt ≠ 503 := own_ine hc9 rfl (by decide)
                have i_hc12 : 400 ≤ p0.toInt := own_nlt hc12 rfl (by decide)
                have i_hc15 : 500 ≤ p0.toInt := own_nlt hc15 rfl (by decide)
                refine ⟨?_, rfl, rfl⟩
                unfold own_ec
                repeat' split
                all_goals first | rfl | (exfalso; omega)
      · refine Go.icmpNo X0 hx (pc' := 36) rfl (hb hby d1_33) (flt hc5).1 ?_
        refine Go.iloadN X0 hx (pc' := 37) rfl (hb hby d1_36) rfl ?_
        refine Go.sipush X0 hx (pc' := 40) rfl (hb hby d1_37) (v := (400 : Int32)) (by decide) ?_
        by_cases hc20 : p0 < (400 : Int32)
        · refine Go.icmpNo X0 hx (pc' := 43) rfl (hb hby d1_40) (tlt hc20).2.1 ?_
          have fk21 : Sta Z h0 "com/example/rockhopper/rockhopper/model/ExitCode" "REDIRECT" "Lcom/example/rockhopper/rockhopper/model/ExitCode;" (.ref ard) := G2.ext O0.2
          refine Go.getS X0 hx hZ hown (host := "") (Or.inl (tw_5 hw)) Via.refl e0 fk21 (pc' := 46) rfl (hb hby d1_43) ?_
          intro T22 e22 X22
          refine Go.retR X22 hx hlk (t := (.object "com/example/rockhopper/rockhopper/model/ExitCode")) hret rfl rfl (hb hby d1_46) (by decide) (by decide) ?_
          try rw [e22]
          have i_hc1 : p0.toInt < 200 := own_lt hc1 rfl (by decide)
          have i_hc2 : p0.toInt ≠ 304 := own_ine hc2 rfl (by decide)
          have i_hc5 : 300 ≤ p0.toInt := own_nlt hc5 rfl (by decide)
          have i_hc20 : p0.toInt < 400 := own_lt hc20 rfl (by decide)
          refine ⟨?_, rfl, rfl⟩
          unfold own_ec
          repeat' split
          all_goals first | rfl | (exfalso; omega)
        · refine Go.icmpYes X0 hx (pc' := 47) (hb hby d1_40) (flt hc20).2.1 (by decide) (by decide) ?_
          refine Go.iloadN X0 hx (pc' := 48) rfl (hb hby d1_47) rfl ?_
          refine Go.sipush X0 hx (pc' := 51) rfl (hb hby d1_48) (v := (429 : Int32)) (by decide) ?_
          by_cases hc23 : p0 = (429 : Int32)
          · refine Go.icmpYes X0 hx (pc' := 61) (hb hby d1_51) (teq hc23).1 (by decide) (by decide) ?_
            have fk24 : Sta Z h0 "com/example/rockhopper/rockhopper/model/ExitCode" "RATE_LIMITED" "Lcom/example/rockhopper/rockhopper/model/ExitCode;" (.ref arl) := G3.ext O0.2
            refine Go.getS X0 hx hZ hown (host := "") (Or.inl (tw_21 hw)) Via.refl e0 fk24 (pc' := 64) rfl (hb hby d1_61) ?_
            intro T25 e25 X25
            refine Go.retR X25 hx hlk (t := (.object "com/example/rockhopper/rockhopper/model/ExitCode")) hret rfl rfl (hb hby d1_64) (by decide) (by decide) ?_
            try rw [e25]
            have i_hc1 : p0.toInt < 200 := own_lt hc1 rfl (by decide)
            have i_hc2 : p0.toInt ≠ 304 := own_ine hc2 rfl (by decide)
            have i_hc5 : 300 ≤ p0.toInt := own_nlt hc5 rfl (by decide)
            have i_hc20 : 400 ≤ p0.toInt := own_nlt hc20 rfl (by decide)
            have i_hc23 : p0.toInt = 429 := own_ieq hc23 rfl (by decide)
            refine ⟨?_, rfl, rfl⟩
            unfold own_ec
            repeat' split
            all_goals first | rfl | (exfalso; omega)
          · refine Go.icmpNo X0 hx (pc' := 54) rfl (hb hby d1_51) (feq hc23).1 ?_
            refine Go.iloadN X0 hx (pc' := 55) rfl (hb hby d1_54) rfl ?_
            refine Go.sipush X0 hx (pc' := 58) rfl (hb hby d1_55) (v := (503 : Int32)) (by decide) ?_
            by_cases hc26 : p0 = (503 : Int32)
            · refine Go.icmpNo X0 hx (pc' := 61) rfl (hb hby d1_58) (teq hc26).2 ?_
              have fk27 : Sta Z h0 "com/example/rockhopper/rockhopper/model/ExitCode" "RATE_LIMITED" "Lcom/example/rockhopper/rockhopper/model/ExitCode;" (.ref arl) := G3.ext O0.2
              refine Go.getS X0 hx hZ hown (host := "") (Or.inl (tw_21 hw)) Via.refl e0 fk27 (pc' := 64) rfl (hb hby d1_61) ?_
              intro T28 e28 X28
              refine Go.retR X28 hx hlk (t := (.object "com/example/rockhopper/rockhopper/model/ExitCode")) hret rfl rfl (hb hby d1_64) (by decide) (by decide) ?_
              try rw [e28]
              have i_hc1 : p0.toInt < 200 := own_lt hc1 rfl (by decide)
              have i_hc2 : p0.toInt ≠ 304 := own_ine hc2 rfl (by decide)
              have i_hc5 : 300 ≤ p0.toInt := own_nlt hc5 rfl (by decide)
              have i_hc20 : 400 ≤ p0.toInt := own_nlt hc20 rfl (by decide)
              have i_hc23 : p0.toInt ≠ 429 := own_ine hc23 rfl (by decide)
              have i_hc26 : p0.toInt = 503 := own_ieq hc26 rfl (by decide)
              refine ⟨?_, rfl, rfl⟩
              unfold own_ec
              repeat' split
              all_goals first | rfl | (exfalso; omega)
            · refine Go.icmpYes X0 hx (pc' := 65) (hb hby d1_58) (feq hc26).2 (by decide) (by decide) ?_
              refine Go.iloadN X0 hx (pc' := 66) rfl (hb hby d1_65) rfl ?_
              refine Go.sipush X0 hx (pc' := 69) rfl (hb hby d1_66) (v := (400 : Int32)) (by decide) ?_
              refine Go.icmpNo X0 hx (pc' := 72) rfl (hb hby d1_69) (flt hc20).1 ?_
              refine Go.iloadN X0 hx (pc' := 73) rfl (hb hby d1_72) rfl ?_
              refine Go.sipush X0 hx (pc' := 76) rfl (hb hby d1_73) (v := (500 : Int32)) (by decide) ?_
              by_cases hc29 : p0 < (500 : Int32)
              · refine Go.icmpNo X0 hx (pc' := 79) rfl (hb hby d1_76) (tlt hc29).2.1 ?_
                have fk30 : Sta Z h0 "com/example/rockhopper/rockhopper/model/ExitCode" "HTTP_CLIENT_ERROR" "Lcom/example/rockhopper/rockhopper/model/ExitCode;" (.ref ace) := G4.ext O0.2
                refine Go.getS X0 hx hZ hown (host := "") (Or.inl (tw_24 hw)) Via.refl e0 fk30 (pc' := 82) rfl (hb hby d1_79) ?_
                intro T31 e31 X31
                refine Go.retR X31 hx hlk (t := (.object "com/example/rockhopper/rockhopper/model/ExitCode")) hret rfl rfl (hb hby d1_82) (by decide) (by decide) ?_
                try rw [e31]
                have i_hc1 : p0.toInt < 200 := own_lt hc1 rfl (by decide)
                have i_hc2 : p0.toInt ≠ 304 := own_ine hc2 rfl (by decide)
                have i_hc5 : 300 ≤ p0.toInt := own_nlt hc5 rfl (by decide)
                have i_hc20 : 400 ≤ p0.toInt := own_nlt hc20 rfl (by decide)
                have i_hc23 : p0.toInt ≠ 429 := own_ine hc23 rfl (by decide)
                have i_hc26 : p0.toInt ≠ 503 := own_ine hc26 rfl (by decide)
                have i_hc29 : p0.toInt < 500 := own_lt hc29 rfl (by decide)
                refine ⟨?_, rfl, rfl⟩
                unfold own_ec
                repeat' split
                all_goals first | rfl | (exfalso; omega)
              · refine Go.icmpYes X0 hx (pc' := 83) (hb hby d1_76) (flt hc29).2.1 (by decide) (by decide) ?_
                have fk32 : Sta Z h0 "com/example/rockhopper/rockhopper/model/ExitCode" "HTTP_SERVER_ERROR" "Lcom/example/rockhopper/rockhopper/model/ExitCode;" (.ref ase) := G5.ext O0.2
                refine Go.getS X0 hx hZ hown (host := "") (Or.inl (tw_15 hw)) Via.refl e0 fk32 (pc' := 86) rfl (hb hby d1_83) ?_
                intro T33 e33 X33
                refine Go.retR X33 hx hlk (t := (.object "com/example/rockhopper/rockhopper/model/ExitCode")) hret rfl rfl (hb hby d1_86) (by decide) (by decide) ?_
                try rw [e33]
                have i_hc1 : p0.toInt < 200 := own_lt hc1 rfl (by decide)
                have i_hc2 : p0.toInt ≠ 304 := own_ine hc2 rfl (by decide)
                have i_hc5 : 300 ≤ p0.toInt := own_nlt hc5 rfl (by decide)
                have i_hc20 : 400 ≤ p0.toInt := own_nlt hc20 rfl (by decide)
                have i_hc23 : p0.toInt ≠ 429 := own_ine hc23 rfl (by decide)
                have i_hc26 : p0.toInt ≠ 503 := own_ine hc26 rfl (by decide)
                have i_hc29 : 500 ≤ p0.toInt := own_nlt hc29 rfl (by decide)
                refine ⟨?_, rfl, rfl⟩
                unfold own_ec
                repeat' split
                all_goals first | rfl | (exfalso; omega)
  · refine Go.icmpNo X0 hx (pc' := 7) rfl (hb hby d1_4) (flt hc1).1 ?_
    refine Go.iloadN X0 hx (pc' := 8) rfl (hb hby d1_7) rfl ?_
    refine Go.sipush X0 hx (pc' := 11) rfl (hb hby d1_8) (v := (300 : Int32)) (by decide) ?_
    by_cases hc34 : p0 < (300 : Int32)
    · refine Go.icmpNo X0 hx (pc' := 14) rfl (hb hby d1_11) (tlt hc34).2.1 ?_
      have fk35 : Sta Z h0 "com/example/rockhopper/rockhopper/model/ExitCode" "OK" "Lcom/example/rockhopper/rockhopper/model/ExitCode;" (.ref aok) := G0.ext O0.2
      refine Go.getS X0 hx hZ hown (host := "") (Or.inl (tw_12 hw)) Via.refl e0 fk35 (pc' := 17) rfl (hb hby d1_14) ?_
      intro T36 e36 X36
      refine Go.retR X36 hx hlk (t := (.object "com/example/rockhopper/rockhopper/model/ExitCode")) hret rfl rfl (hb hby d1_17) (by decide) (by decide) ?_
      try rw [e36]
      have i_hc1 : 200 ≤ p0.toInt := own_nlt hc1 rfl (by decide)
      have i_hc34 : p0.toInt < 300 := own_lt hc34 rfl (by decide)
      refine ⟨?_, rfl, rfl⟩
      unfold own_ec
      repeat' split
      all_goals first | rfl | (exfalso; omega)
    · refine Go.icmpYes X0 hx (pc' := 18) (hb hby d1_11) (flt hc34).2.1 (by decide) (by decide) ?_
      refine Go.iloadN X0 hx (pc' := 19) rfl (hb hby d1_18) rfl ?_
      refine Go.sipush X0 hx (pc' := 22) rfl (hb hby d1_19) (v := (304 : Int32)) (by decide) ?_
      by_cases hc37 : p0 = (304 : Int32)
      · refine Go.icmpNo X0 hx (pc' := 25) rfl (hb hby d1_22) (teq hc37).2 ?_
        have fk38 : Sta Z h0 "com/example/rockhopper/rockhopper/model/ExitCode" "NOT_MODIFIED" "Lcom/example/rockhopper/rockhopper/model/ExitCode;" (.ref anm) := G1.ext O0.2
        refine Go.getS X0 hx hZ hown (host := "") (Or.inl (tw_18 hw)) Via.refl e0 fk38 (pc' := 28) rfl (hb hby d1_25) ?_
        intro T39 e39 X39
        refine Go.retR X39 hx hlk (t := (.object "com/example/rockhopper/rockhopper/model/ExitCode")) hret rfl rfl (hb hby d1_28) (by decide) (by decide) ?_
        try rw [e39]
        have i_hc1 : 200 ≤ p0.toInt := own_nlt hc1 rfl (by decide)
        have i_hc34 : 300 ≤ p0.toInt := own_nlt hc34 rfl (by decide)
        have i_hc37 : p0.toInt = 304 := own_ieq hc37 rfl (by decide)
        refine ⟨?_, rfl, rfl⟩
        unfold own_ec
        repeat' split
        all_goals first | rfl | (exfalso; omega)
      · refine Go.icmpYes X0 hx (pc' := 29) (hb hby d1_22) (feq hc37).2 (by decide) (by decide) ?_
        refine Go.iloadN X0 hx (pc' := 30) rfl (hb hby d1_29) rfl ?_
        refine Go.sipush X0 hx (pc' := 33) rfl (hb hby d1_30) (v := (300 : Int32)) (by decide) ?_
        refine Go.icmpNo X0 hx (pc' := 36) rfl (hb hby d1_33) (flt hc34).1 ?_
        refine Go.iloadN X0 hx (pc' := 37) rfl (hb hby d1_36) rfl ?_
        refine Go.sipush X0 hx (pc' := 40) rfl (hb hby d1_37) (v := (400 : Int32)) (by decide) ?_
        by_cases hc40 : p0 < (400 : Int32)
        · refine Go.icmpNo X0 hx (pc' := 43) rfl (hb hby d1_40) (tlt hc40).2.1 ?_
          have fk41 : Sta Z h0 "com/example/rockhopper/rockhopper/model/ExitCode" "REDIRECT" "Lcom/example/rockhopper/rockhopper/model/ExitCode;" (.ref ard) := G2.ext O0.2
          refine Go.getS X0 hx hZ hown (host := "") (Or.inl (tw_5 hw)) Via.refl e0 fk41 (pc' := 46) rfl (hb hby d1_43) ?_
          intro T42 e42 X42
          refine Go.retR X42 hx hlk (t := (.object "com/example/rockhopper/rockhopper/model/ExitCode")) hret rfl rfl (hb hby d1_46) (by decide) (by decide) ?_
          try rw [e42]
          have i_hc1 : 200 ≤ p0.toInt := own_nlt hc1 rfl (by decide)
          have i_hc34 : 300 ≤ p0.toInt := own_nlt hc34 rfl (by decide)
          have i_hc37 : p0.toInt ≠ 304 := own_ine hc37 rfl (by decide)
          have i_hc40 : p0.toInt < 400 := own_lt hc40 rfl (by decide)
          refine ⟨?_, rfl, rfl⟩
          unfold own_ec
          repeat' split
          all_goals first | rfl | (exfalso; omega)
        · refine Go.icmpYes X0 hx (pc' := 47) (hb hby d1_40) (flt hc40).2.1 (by decide) (by decide) ?_
          refine Go.iloadN X0 hx (pc' := 48) rfl (hb hby d1_47) rfl ?_
          refine Go.sipush X0 hx (pc' := 51) rfl (hb hby d1_48) (v := (429 : Int32)) (by decide) ?_
          by_cases hc43 : p0 = (429 : Int32)
          · refine Go.icmpYes X0 hx (pc' := 61) (hb hby d1_51) (teq hc43).1 (by decide) (by decide) ?_
            have fk44 : Sta Z h0 "com/example/rockhopper/rockhopper/model/ExitCode" "RATE_LIMITED" "Lcom/example/rockhopper/rockhopper/model/ExitCode;" (.ref arl) := G3.ext O0.2
            refine Go.getS X0 hx hZ hown (host := "") (Or.inl (tw_21 hw)) Via.refl e0 fk44 (pc' := 64) rfl (hb hby d1_61) ?_
            intro T45 e45 X45
            refine Go.retR X45 hx hlk (t := (.object "com/example/rockhopper/rockhopper/model/ExitCode")) hret rfl rfl (hb hby d1_64) (by decide) (by decide) ?_
            try rw [e45]
            have i_hc1 : 200 ≤ p0.toInt := own_nlt hc1 rfl (by decide)
            have i_hc34 : 300 ≤ p0.toInt := own_nlt hc34 rfl (by decide)
            have i_hc37 : p0.toInt ≠ 304 := own_ine hc37 rfl (by decide)
            have i_hc40 : 400 ≤ p0.toInt := own_nlt hc40 rfl (by decide)
            have i_hc43 : p0.toInt = 429 := own_ieq hc43 rfl (by decide)
            refine ⟨?_, rfl, rfl⟩
            unfold own_ec
            repeat' split
            all_goals first | rfl | (exfalso; omega)
          · refine Go.icmpNo X0 hx (pc' := 54) rfl (hb hby d1_51) (feq hc43).1 ?_
            refine Go.iloadN X0 hx (pc' := 55) rfl (hb hby d1_54) rfl ?_
            refine Go.sipush X0 hx (pc' := 58) rfl (hb hby d1_55) (v := (503 : Int32)) (by decide) ?_
            by_cases hc46 : p0 = (503 : Int32)
            · refine Go.icmpNo X0 hx (pc' := 61) rfl (hb hby d1_58) (teq hc46).2 ?_
              have fk47 : Sta Z h0 "com/example/rockhopper/rockhopper/model/ExitCode" "RATE_LIMITED" "Lcom/example/rockhopper/rockhopper/model/ExitCode;" (.ref arl) := G3.ext O0.2
              refine Go.getS X0 hx hZ hown (host := "") (Or.inl (tw_21 hw)) Via.refl e0 fk47 (pc' := 64) rfl (hb hby d1_61) ?_
              intro T48 e48 X48
              refine Go.retR X48 hx hlk (t := (.object "com/example/rockhopper/rockhopper/model/ExitCode")) hret rfl rfl (hb hby d1_64) (by decide) (by decide) ?_
              try rw [e48]
              have i_hc1 : 200 ≤ p0.toInt := own_nlt hc1 rfl (by decide)
              have i_hc34 : 300 ≤ p0.toInt := own_nlt hc34 rfl (by decide)
              have i_hc37 : p0.toInt ≠ 304 := own_ine hc37 rfl (by decide)
              have i_hc40 : 400 ≤ p0.toInt := own_nlt hc40 rfl (by decide)
              have i_hc43 : p0.toInt ≠ 429 := own_ine hc43 rfl (by decide)
              have i_hc46 : p0.toInt = 503 := own_ieq hc46 rfl (by decide)
              refine ⟨?_, rfl, rfl⟩
              unfold own_ec
              repeat' split
              all_goals first | rfl | (exfalso; omega)
            · refine Go.icmpYes X0 hx (pc' := 65) (hb hby d1_58) (feq hc46).2 (by decide) (by decide) ?_
              refine Go.iloadN X0 hx (pc' := 66) rfl (hb hby d1_65) rfl ?_
              refine Go.sipush X0 hx (pc' := 69) rfl (hb hby d1_66) (v := (400 : Int32)) (by decide) ?_
              refine Go.icmpNo X0 hx (pc' := 72) rfl (hb hby d1_69) (flt hc40).1 ?_
              refine Go.iloadN X0 hx (pc' := 73) rfl (hb hby d1_72) rfl ?_
              refine Go.sipush X0 hx (pc' := 76) rfl (hb hby d1_73) (v := (500 : Int32)) (by decide) ?_
              by_cases hc49 : p0 < (500 : Int32)
              · refine Go.icmpNo X0 hx (pc' := 79) rfl (hb hby d1_76) (tlt hc49).2.1 ?_
                have fk50 : Sta Z h0 "com/example/rockhopper/rockhopper/model/ExitCode" "HTTP_CLIENT_ERROR" "Lcom/example/rockhopper/rockhopper/model/ExitCode;" (.ref ace) := G4.ext O0.2
                refine Go.getS X0 hx hZ hown (host := "") (Or.inl (tw_24 hw)) Via.refl e0 fk50 (pc' := 82) rfl (hb hby d1_79) ?_
                intro T51 e51 X51
                refine Go.retR X51 hx hlk (t := (.object "com/example/rockhopper/rockhopper/model/ExitCode")) hret rfl rfl (hb hby d1_82) (by decide) (by decide) ?_
                try rw [e51]
                have i_hc1 : 200 ≤ p0.toInt := own_nlt hc1 rfl (by decide)
                have i_hc34 : 300 ≤ p0.toInt := own_nlt hc34 rfl (by decide)
                have i_hc37 : p0.toInt ≠ 304 := own_ine hc37 rfl (by decide)
                have i_hc40 : 400 ≤ p0.toInt := own_nlt hc40 rfl (by decide)
                have i_hc43 : p0.toInt ≠ 429 := own_ine hc43 rfl (by decide)
                have i_hc46 : p0.toInt ≠ 503 := own_ine hc46 rfl (by decide)
                have i_hc49 : p0.toInt < 500 := own_lt hc49 rfl (by decide)
                refine ⟨?_, rfl, rfl⟩
                unfold own_ec
                repeat' split
                all_goals first | rfl | (exfalso; omega)
              · refine Go.icmpYes X0 hx (pc' := 83) (hb hby d1_76) (flt hc49).2.1 (by decide) (by decide) ?_
                have fk52 : Sta Z h0 "com/example/rockhopper/rockhopper/model/ExitCode" "HTTP_SERVER_ERROR" "Lcom/example/rockhopper/rockhopper/model/ExitCode;" (.ref ase) := G5.ext O0.2
                refine Go.getS X0 hx hZ hown (host := "") (Or.inl (tw_15 hw)) Via.refl e0 fk52 (pc' := 86) rfl (hb hby d1_83) ?_
                intro T53 e53 X53
                refine Go.retR X53 hx hlk (t := (.object "com/example/rockhopper/rockhopper/model/ExitCode")) hret rfl rfl (hb hby d1_86) (by decide) (by decide) ?_
                try rw [e53]
                have i_hc1 : 200 ≤ p0.toInt := own_nlt hc1 rfl (by decide)
                have i_hc34 : 300 ≤ p0.toInt := own_nlt hc34 rfl (by decide)
                have i_hc37 : p0.toInt ≠ 304 := own_ine hc37 rfl (by decide)
                have i_hc40 : 400 ≤ p0.toInt := own_nlt hc40 rfl (by decide)
                have i_hc43 : p0.toInt ≠ 429 := own_ine hc43 rfl (by decide)
                have i_hc46 : p0.toInt ≠ 503 := own_ine hc46 rfl (by decide)
                have i_hc49 : 500 ≤ p0.toInt := own_nlt hc49 rfl (by decide)
                refine ⟨?_, rfl, rfl⟩
                unfold own_ec
                repeat' split
                all_goals first | rfl | (exfalso; omega)
theorem ef_2_I (m : MethodId) (x0 : Int32) : entryFrame m #[(.int x0)] 2 = mkF m 0 #[.val (.int x0), .unset] [] := by first | (simp [entryFrame, mkF, argsToLocals, Value.category]; done) | rfl
theorem pn_c1 : plainName "com/example/rockhopper/rockhopper/model/ExitCodeOfHttpStatusPinLaw" = true := by first | (simp [plainName, overriddenIn]; done) | decide +kernel
theorem d2_0 : decode method_2_code 0 = .ok (.iload_n 0, 1) := by decide +kernel
theorem d2_1 : decode method_2_code 1 = .ok (.sipush 200, 3) := by decide +kernel
theorem d2_4 : decode method_2_code 4 = .ok (.if_icmp .lt 17, 3) := by decide +kernel
theorem d2_21 : decode method_2_code 21 = .ok (.iconst 5, 1) := by decide +kernel
theorem d2_22 : decode method_2_code 22 = .ok (.istore_n 1, 1) := by decide +kernel
theorem d2_23 : decode method_2_code 23 = .ok (.iload_n 1, 1) := by decide +kernel
theorem d2_24 : decode method_2_code 24 = .ok (.iconst 2, 1) := by decide +kernel
theorem d2_25 : decode method_2_code 25 = .ok (.if_icmp .ne 7, 3) := by decide +kernel
theorem d2_32 : decode method_2_code 32 = .ok (.iload_n 1, 1) := by decide +kernel
theorem d2_33 : decode method_2_code 33 = .ok (.iconst 3, 1) := by decide +kernel
theorem d2_34 : decode method_2_code 34 = .ok (.if_icmp .ne 18, 3) := by decide +kernel
theorem d2_52 : decode method_2_code 52 = .ok (.iload_n 1, 1) := by decide +kernel
theorem d2_53 : decode method_2_code 53 = .ok (.iconst 4, 1) := by decide +kernel
theorem d2_54 : decode method_2_code 54 = .ok (.if_icmp .ne 18, 3) := by decide +kernel
theorem d2_72 : decode method_2_code 72 = .ok (.iload_n 0, 1) := by decide +kernel
theorem d2_73 : decode method_2_code 73 = .ok (.sipush 503, 3) := by decide +kernel
theorem d2_76 : decode method_2_code 76 = .ok (.if_icmp .ne 7, 3) := by decide +kernel
theorem d2_79 : decode method_2_code 79 = .ok (.getstatic 19, 3) := by decide +kernel
theorem d2_82 : decode method_2_code 82 = .ok (.areturn, 1) := by decide +kernel
theorem d2_83 : decode method_2_code 83 = .ok (.getstatic 25, 3) := by decide +kernel
theorem d2_86 : decode method_2_code 86 = .ok (.areturn, 1) := by decide +kernel
theorem d2_7 : decode method_2_code 7 = .ok (.iload_n 0, 1) := by decide +kernel
theorem d2_8 : decode method_2_code 8 = .ok (.sipush 600, 3) := by decide +kernel
theorem d2_11 : decode method_2_code 11 = .ok (.if_icmp .ge 10, 3) := by decide +kernel
theorem d2_14 : decode method_2_code 14 = .ok (.iload_n 0, 1) := by decide +kernel
theorem d2_15 : decode method_2_code 15 = .ok (.bipush 100, 2) := by decide +kernel
theorem d2_17 : decode method_2_code 17 = .ok (.idiv, 1) := by decide +kernel
theorem d2_18 : decode method_2_code 18 = .ok (.goto 4, 3) := by decide +kernel
theorem d2_28 : decode method_2_code 28 = .ok (.getstatic 7, 3) := by decide +kernel
theorem d2_31 : decode method_2_code 31 = .ok (.areturn, 1) := by decide +kernel
theorem d2_37 : decode method_2_code 37 = .ok (.iload_n 0, 1) := by decide +kernel
theorem d2_38 : decode method_2_code 38 = .ok (.sipush 304, 3) := by decide +kernel
theorem d2_41 : decode method_2_code 41 = .ok (.if_icmp .ne 7, 3) := by decide +kernel
theorem d2_44 : decode method_2_code 44 = .ok (.getstatic 13, 3) := by decide +kernel
theorem d2_47 : decode method_2_code 47 = .ok (.areturn, 1) := by decide +kernel
theorem d2_48 : decode method_2_code 48 = .ok (.getstatic 16, 3) := by decide +kernel
theorem d2_51 : decode method_2_code 51 = .ok (.areturn, 1) := by decide +kernel
theorem d2_57 : decode method_2_code 57 = .ok (.iload_n 0, 1) := by decide +kernel
theorem d2_58 : decode method_2_code 58 = .ok (.sipush 429, 3) := by decide +kernel
theorem d2_61 : decode method_2_code 61 = .ok (.if_icmp .ne 7, 3) := by decide +kernel
theorem d2_64 : decode method_2_code 64 = .ok (.getstatic 19, 3) := by decide +kernel
theorem d2_67 : decode method_2_code 67 = .ok (.areturn, 1) := by decide +kernel
theorem d2_68 : decode method_2_code 68 = .ok (.getstatic 22, 3) := by decide +kernel
theorem d2_71 : decode method_2_code 71 = .ok (.areturn, 1) := by decide +kernel
set_option maxRecDepth 65536 in
set_option maxHeartbeats 4000000 in
theorem rm_ex (l : Launch) (Z : State) (a0 : Array Value) (hw : ∀ d ∈ tables_1, d.before a0 Z = true) (p0 : Int32) (aok : Addr) (anm : Addr) (ard : Addr) (arl : Addr) (ace : Addr) (ase : Addr) (h0 : Heap) (n0 : Nat) (Z0 : n0 ≤ h0.size) (O0 : Old Z n0 h0) (G : Glob Z aok anm ard arl ace ase) :
    Ctr l Z (⟨"com/example/rockhopper/rockhopper/model/ExitCodeOfHttpStatusPinLaw", "expected", "(I)Lcom/example/rockhopper/rockhopper/model/ExitCode;"⟩ : MethodName) method_2_code 2 (some (.object "com/example/rockhopper/rockhopper/model/ExitCode")) ({ frames := 0, cells := 0, slots := 0, locals := 0 } : Room) #[(.int p0)] h0 (fun v h L => v = some (.ref (own_ec p0.toInt aok anm ard arl ace ase)) ∧ L = [] ∧ h = h0) := by
  refine Ctr.of (plainFor_of_name pn_c1) ?_
  intro p e s m below meth c T0 hx hZ hby hml hown hnm hret hlk e0 es X0
  refine Go.cast (ef_2_I m p0) ?_
  have G' := G
  obtain ⟨G0, G1, G2, G3, G4, G5⟩ := G'
  refine Go.iloadN X0 hx (pc' := 1) rfl (hb hby d2_0) rfl ?_
  refine Go.sipush X0 hx (pc' := 4) rfl (hb hby d2_1) (v := (200 : Int32)) (by decide) ?_
  by_cases hc1 : p0 < (200 : Int32)
  · refine Go.icmpYes X0 hx (pc' := 21) (hb hby d2_4) (tlt hc1).1 (by decide) (by decide) ?_
    refine Go.iconst X0 hx (pc' := 22) rfl (hb hby d2_21) (v := (5 : Int32)) rfl ?_
    refine Go.istoreN X0 hx (pc' := 23) rfl (hb hby d2_22) (Ls' := #[.val (.int p0), .val (.int 5)]) rfl ?_
    refine Go.iloadN X0 hx (pc' := 24) rfl (hb hby d2_23) rfl ?_
    refine Go.iconst X0 hx (pc' := 25) rfl (hb hby d2_24) (v := (2 : Int32)) rfl ?_
    refine Go.icmpYes X0 hx (pc' := 32) (hb hby d2_25) (by decide) (by decide) (by decide) ?_
    refine Go.iloadN X0 hx (pc' := 33) rfl (hb hby d2_32) rfl ?_
    refine Go.iconst X0 hx (pc' := 34) rfl (hb hby d2_33) (v := (3 : Int32)) rfl ?_
    refine Go.icmpYes X0 hx (pc' := 52) (hb hby d2_34) (by decide) (by decide) (by decide) ?_
    refine Go.iloadN X0 hx (pc' := 53) rfl (hb hby d2_52) rfl ?_
    refine Go.iconst X0 hx (pc' := 54) rfl (hb hby d2_53) (v := (4 : Int32)) rfl ?_
    refine Go.icmpYes X0 hx (pc' := 72) (hb hby d2_54) (by decide) (by decide) (by decide) ?_
    refine Go.iloadN X0 hx (pc' := 73) rfl (hb hby d2_72) rfl ?_
    refine Go.sipush X0 hx (pc' := 76) rfl (hb hby d2_73) (v := (503 : Int32)) (by decide) ?_
    by_cases hc2 : p0 = (503 : Int32)
    · refine Go.icmpNo X0 hx (pc' := 79) rfl (hb hby d2_76) (teq hc2).2 ?_
      have fk3 : Sta Z h0 "com/example/rockhopper/rockhopper/model/ExitCode" "RATE_LIMITED" "Lcom/example/rockhopper/rockhopper/model/ExitCode;" (.ref arl) := G3.ext O0.2
      refine Go.getS X0 hx hZ hown (host := "") (Or.inl (tw_23 hw)) Via.refl e0 fk3 (pc' := 82) rfl (hb hby d2_79) ?_
      intro T4 e4 X4
      refine Go.retR X4 hx hlk (t := (.object "com/example/rockhopper/rockhopper/model/ExitCode")) hret rfl rfl (hb hby d2_82) (by decide) (by decide) ?_
      try rw [e4]
      have i_hc1 : p0.toInt < 200 := own_lt hc1 rfl (by decide)
      have i_hc2 : p0.toInt = 503 := own_ieq hc2 rfl (by decide)
      refine ⟨?_, rfl, rfl⟩
      unfold own_ec
      repeat' split
      all_goals first | rfl | (exfalso; omega)
    · refine Go.icmpYes X0 hx (pc' := 83) (hb hby d2_76) (feq hc2).2 (by decide) (by decide) ?_
      have fk5 : Sta Z h0 "com/example/rockhopper/rockhopper/model/ExitCode" "HTTP_SERVER_ERROR" "Lcom/example/rockhopper/rockhopper/model/ExitCode;" (.ref ase) := G5.ext O0.2
      refine Go.getS X0 hx hZ hown (host := "") (Or.inl (tw_17 hw)) Via.refl e0 fk5 (pc' := 86) rfl (hb hby d2_83) ?_
      intro T6 e6 X6
      refine Go.retR X6 hx hlk (t := (.object "com/example/rockhopper/rockhopper/model/ExitCode")) hret rfl rfl (hb hby d2_86) (by decide) (by decide) ?_
      try rw [e6]
      have i_hc1 : p0.toInt < 200 := own_lt hc1 rfl (by decide)
      have i_hc2 : p0.toInt ≠ 503 := own_ine hc2 rfl (by decide)
      refine ⟨?_, rfl, rfl⟩
      unfold own_ec
      repeat' split
      all_goals first | rfl | (exfalso; omega)
  · refine Go.icmpNo X0 hx (pc' := 7) rfl (hb hby d2_4) (flt hc1).1 ?_
    refine Go.iloadN X0 hx (pc' := 8) rfl (hb hby d2_7) rfl ?_
    refine Go.sipush X0 hx (pc' := 11) rfl (hb hby d2_8) (v := (600 : Int32)) (by decide) ?_
    by_cases hc7 : p0 < (600 : Int32)
    · refine Go.icmpNo X0 hx (pc' := 14) rfl (hb hby d2_11) (tlt hc7).2.1 ?_
      refine Go.iloadN X0 hx (pc' := 15) rfl (hb hby d2_14) rfl ?_
      refine Go.bipush X0 hx (pc' := 17) rfl (hb hby d2_15) (v := (100 : Int32)) (by decide) ?_
      refine Go.idiv X0 hx (pc' := 18) rfl (hb hby d2_17) (by decide) ?_
      refine Go.goto X0 hx (pc' := 22) (hb hby d2_18) (by decide) (by decide) ?_
      have hd0 := (c_idiv p0 (100 : Int32) 100 (by decide) (by decide)).1
      generalize hqv : p0 / (100 : Int32) = qv at hd0
      have hd1 : qv.toInt = p0.toInt / 100 := hd0 (by first | (have := own_nlt hc1 rfl (by decide : (200 : Int32).toInt = 200); omega))
      refine Go.istoreN X0 hx (pc' := 23) rfl (hb hby d2_22) (Ls' := #[.val (.int p0), .val (.int qv)]) rfl ?_
      refine Go.iloadN X0 hx (pc' := 24) rfl (hb hby d2_23) rfl ?_
      refine Go.iconst X0 hx (pc' := 25) rfl (hb hby d2_24) (v := (2 : Int32)) rfl ?_
      by_cases hc8 : qv = (2 : Int32)
      · refine Go.icmpNo X0 hx (pc' := 28) rfl (hb hby d2_25) (teq hc8).2 ?_
        have fk9 : Sta Z h0 "com/example/rockhopper/rockhopper/model/ExitCode" "OK" "Lcom/example/rockhopper/rockhopper/model/ExitCode;" (.ref aok) := G0.ext O0.2
        refine Go.getS X0 hx hZ hown (host := "") (Or.inl (tw_14 hw)) Via.refl e0 fk9 (pc' := 31) rfl (hb hby d2_28) ?_
        intro T10 e10 X10
        refine Go.retR X10 hx hlk (t := (.object "com/example/rockhopper/rockhopper/model/ExitCode")) hret rfl rfl (hb hby d2_31) (by decide) (by decide) ?_
        try rw [e10]
        have i_hc1 : 200 ≤ p0.toInt := own_nlt hc1 rfl (by decide)
        have i_hc7 : p0.toInt < 600 := own_lt hc7 rfl (by decide)
        have i_hc8 : qv.toInt = 2 := own_ieq hc8 rfl (by decide)
        refine ⟨?_, rfl, rfl⟩
        unfold own_ec
        repeat' split
        all_goals first | rfl | (exfalso; omega)
      · refine Go.icmpYes X0 hx (pc' := 32) (hb hby d2_25) (feq hc8).2 (by decide) (by decide) ?_
        refine Go.iloadN X0 hx (pc' := 33) rfl (hb hby d2_32) rfl ?_
        refine Go.iconst X0 hx (pc' := 34) rfl (hb hby d2_33) (v := (3 : Int32)) rfl ?_
        by_cases hc11 : qv = (3 : Int32)
        · refine Go.icmpNo X0 hx (pc' := 37) rfl (hb hby d2_34) (teq hc11).2 ?_
          refine Go.iloadN X0 hx (pc' := 38) rfl (hb hby d2_37) rfl ?_
          refine Go.sipush X0 hx (pc' := 41) rfl (hb hby d2_38) (v := (304 : Int32)) (by decide) ?_
          by_cases hc12 : p0 = (304 : Int32)
          · refine Go.icmpNo X0 hx (pc' := 44) rfl (hb hby d2_41) (teq hc12).2 ?_
            have fk13 : Sta Z h0 "com/example/rockhopper/rockhopper/model/ExitCode" "NOT_MODIFIED" "Lcom/example/rockhopper/rockhopper/model/ExitCode;" (.ref anm) := G1.ext O0.2
            refine Go.getS X0 hx hZ hown (host := "") (Or.inl (tw_20 hw)) Via.refl e0 fk13 (pc' := 47) rfl (hb hby d2_44) ?_
            intro T14 e14 X14
            refine Go.retR X14 hx hlk (t := (.object "com/example/rockhopper/rockhopper/model/ExitCode")) hret rfl rfl (hb hby d2_47) (by decide) (by decide) ?_
            try rw [e14]
            have i_hc1 : 200 ≤ p0.toInt := own_nlt hc1 rfl (by decide)
            have i_hc7 : p0.toInt < 600 := own_lt hc7 rfl (by decide)
            have i_hc8 : qv.toInt ≠ 2 := own_ine hc8 rfl (by decide)
            have i_hc11 : qv.toInt = 3 := own_ieq hc11 rfl (by decide)
            have i_hc12 : p0.toInt = 304 := own_ieq hc12 rfl (by decide)
            refine ⟨?_, rfl, rfl⟩
            unfold own_ec
            repeat' split
            all_goals first | rfl | (exfalso; omega)
          · refine Go.icmpYes X0 hx (pc' := 48) (hb hby d2_41) (feq hc12).2 (by decide) (by decide) ?_
            have fk15 : Sta Z h0 "com/example/rockhopper/rockhopper/model/ExitCode" "REDIRECT" "Lcom/example/rockhopper/rockhopper/model/ExitCode;" (.ref ard) := G2.ext O0.2
            refine Go.getS X0 hx hZ hown (host := "") (Or.inl (tw_11 hw)) Via.refl e0 fk15 (pc' := 51) rfl (hb hby d2_48) ?_
            intro T16 e16 X16
            refine Go.retR X16 hx hlk (t := (.object "com/example/rockhopper/rockhopper/model/ExitCode")) hret rfl rfl (hb hby d2_51) (by decide) (by decide) ?_
            try rw [e16]
            have i_hc1 : 200 ≤ p0.toInt := own_nlt hc1 rfl (by decide)
            have i_hc7 : p0.toInt < 600 := own_lt hc7 rfl (by decide)
            have i_hc8 : qv.toInt ≠ 2 := own_ine hc8 rfl (by decide)
            have i_hc11 : qv.toInt = 3 := own_ieq hc11 rfl (by decide)
            have i_hc12 : p0.toInt ≠ 304 := own_ine hc12 rfl (by decide)
            refine ⟨?_, rfl, rfl⟩
            unfold own_ec
            repeat' split
            all_goals first | rfl | (exfalso; omega)
        · refine Go.icmpYes X0 hx (pc' := 52) (hb hby d2_34) (feq hc11).2 (by decide) (by decide) ?_
          refine Go.iloadN X0 hx (pc' := 53) rfl (hb hby d2_52) rfl ?_
          refine Go.iconst X0 hx (pc' := 54) rfl (hb hby d2_53) (v := (4 : Int32)) rfl ?_
          by_cases hc17 : qv = (4 : Int32)
          · refine Go.icmpNo X0 hx (pc' := 57) rfl (hb hby d2_54) (teq hc17).2 ?_
            refine Go.iloadN X0 hx (pc' := 58) rfl (hb hby d2_57) rfl ?_
            refine Go.sipush X0 hx (pc' := 61) rfl (hb hby d2_58) (v := (429 : Int32)) (by decide) ?_
            by_cases hc18 : p0 = (429 : Int32)
            · refine Go.icmpNo X0 hx (pc' := 64) rfl (hb hby d2_61) (teq hc18).2 ?_
              have fk19 : Sta Z h0 "com/example/rockhopper/rockhopper/model/ExitCode" "RATE_LIMITED" "Lcom/example/rockhopper/rockhopper/model/ExitCode;" (.ref arl) := G3.ext O0.2
              refine Go.getS X0 hx hZ hown (host := "") (Or.inl (tw_23 hw)) Via.refl e0 fk19 (pc' := 67) rfl (hb hby d2_64) ?_
              intro T20 e20 X20
              refine Go.retR X20 hx hlk (t := (.object "com/example/rockhopper/rockhopper/model/ExitCode")) hret rfl rfl (hb hby d2_67) (by decide) (by decide) ?_
              try rw [e20]
              have i_hc1 : 200 ≤ p0.toInt := own_nlt hc1 rfl (by decide)
              have i_hc7 : p0.toInt < 600 := own_lt hc7 rfl (by decide)
              have i_hc8 : qv.toInt ≠ 2 := own_ine hc8 rfl (by decide)
              have i_hc11 : qv.toInt ≠ 3 := own_ine hc11 rfl (by decide)
              have i_hc17 : qv.toInt = 4 := own_ieq hc17 rfl (by decide)
              have i_hc18 : p0.toInt = 429 := own_ieq hc18 rfl (by decide)
              refine ⟨?_, rfl, rfl⟩
              unfold own_ec
              repeat' split
              all_goals first | rfl | (exfalso; omega)
            · refine Go.icmpYes X0 hx (pc' := 68) (hb hby d2_61) (feq hc18).2 (by decide) (by decide) ?_
              have fk21 : Sta Z h0 "com/example/rockhopper/rockhopper/model/ExitCode" "HTTP_CLIENT_ERROR" "Lcom/example/rockhopper/rockhopper/model/ExitCode;" (.ref ace) := G4.ext O0.2
              refine Go.getS X0 hx hZ hown (host := "") (Or.inl (tw_26 hw)) Via.refl e0 fk21 (pc' := 71) rfl (hb hby d2_68) ?_
              intro T22 e22 X22
              refine Go.retR X22 hx hlk (t := (.object "com/example/rockhopper/rockhopper/model/ExitCode")) hret rfl rfl (hb hby d2_71) (by decide) (by decide) ?_
              try rw [e22]
              have i_hc1 : 200 ≤ p0.toInt := own_nlt hc1 rfl (by decide)
              have i_hc7 : p0.toInt < 600 := own_lt hc7 rfl (by decide)
              have i_hc8 : qv.toInt ≠ 2 := own_ine hc8 rfl (by decide)
              have i_hc11 : qv.toInt ≠ 3 := own_ine hc11 rfl (by decide)
              have i_hc17 : qv.toInt = 4 := own_ieq hc17 rfl (by decide)
              have i_hc18 : p0.toInt ≠ 429 := own_ine hc18 rfl (by decide)
              refine ⟨?_, rfl, rfl⟩
              unfold own_ec
              repeat' split
              all_goals first | rfl | (exfalso; omega)
          · refine Go.icmpYes X0 hx (pc' := 72) (hb hby d2_54) (feq hc17).2 (by decide) (by decide) ?_
            refine Go.iloadN X0 hx (pc' := 73) rfl (hb hby d2_72) rfl ?_
            refine Go.sipush X0 hx (pc' := 76) rfl (hb hby d2_73) (v := (503 : Int32)) (by decide) ?_
            by_cases hc23 : p0 = (503 : Int32)
            · refine Go.icmpNo X0 hx (pc' := 79) rfl (hb hby d2_76) (teq hc23).2 ?_
              have fk24 : Sta Z h0 "com/example/rockhopper/rockhopper/model/ExitCode" "RATE_LIMITED" "Lcom/example/rockhopper/rockhopper/model/ExitCode;" (.ref arl) := G3.ext O0.2
              refine Go.getS X0 hx hZ hown (host := "") (Or.inl (tw_23 hw)) Via.refl e0 fk24 (pc' := 82) rfl (hb hby d2_79) ?_
              intro T25 e25 X25
              refine Go.retR X25 hx hlk (t := (.object "com/example/rockhopper/rockhopper/model/ExitCode")) hret rfl rfl (hb hby d2_82) (by decide) (by decide) ?_
              try rw [e25]
              have i_hc1 : 200 ≤ p0.toInt := own_nlt hc1 rfl (by decide)
              have i_hc7 : p0.toInt < 600 := own_lt hc7 rfl (by decide)
              have i_hc8 : qv.toInt ≠ 2 := own_ine hc8 rfl (by decide)
              have i_hc11 : qv.toInt ≠ 3 := own_ine hc11 rfl (by decide)
              have i_hc17 : qv.toInt ≠ 4 := own_ine hc17 rfl (by decide)
              have i_hc23 : p0.toInt = 503 := own_ieq hc23 rfl (by decide)
              refine ⟨?_, rfl, rfl⟩
              unfold own_ec
              repeat' split
              all_goals first | rfl | (exfalso; omega)
            · refine Go.icmpYes X0 hx (pc' := 83) (hb hby d2_76) (feq hc23).2 (by decide) (by decide) ?_
              have fk26 : Sta Z h0 "com/example/rockhopper/rockhopper/model/ExitCode" "HTTP_SERVER_ERROR" "Lcom/example/rockhopper/rockhopper/model/ExitCode;" (.ref ase) := G5.ext O0.2
              refine Go.getS X0 hx hZ hown (host := "") (Or.inl (tw_17 hw)) Via.refl e0 fk26 (pc' := 86) rfl (hb hby d2_83) ?_
              intro T27 e27 X27
              refine Go.retR X27 hx hlk (t := (.object "com/example/rockhopper/rockhopper/model/ExitCode")) hret rfl rfl (hb hby d2_86) (by decide) (by decide) ?_
              try rw [e27]
              have i_hc1 : 200 ≤ p0.toInt := own_nlt hc1 rfl (by decide)
              have i_hc7 : p0.toInt < 600 := own_lt hc7 rfl (by decide)
              have i_hc8 : qv.toInt ≠ 2 := own_ine hc8 rfl (by decide)
              have i_hc11 : qv.toInt ≠ 3 := own_ine hc11 rfl (by decide)
              have i_hc17 : qv.toInt ≠ 4 := own_ine hc17 rfl (by decide)
              have i_hc23 : p0.toInt ≠ 503 := own_ine hc23 rfl (by decide)
              refine ⟨?_, rfl, rfl⟩
              unfold own_ec
              repeat' split
              all_goals first | rfl | (exfalso; omega)
    · refine Go.icmpYes X0 hx (pc' := 21) (hb hby d2_11) (flt hc7).2.1 (by decide) (by decide) ?_
      refine Go.iconst X0 hx (pc' := 22) rfl (hb hby d2_21) (v := (5 : Int32)) rfl ?_
      refine Go.istoreN X0 hx (pc' := 23) rfl (hb hby d2_22) (Ls' := #[.val (.int p0), .val (.int 5)]) rfl ?_
      refine Go.iloadN X0 hx (pc' := 24) rfl (hb hby d2_23) rfl ?_
      refine Go.iconst X0 hx (pc' := 25) rfl (hb hby d2_24) (v := (2 : Int32)) rfl ?_
      refine Go.icmpYes X0 hx (pc' := 32) (hb hby d2_25) (by decide) (by decide) (by decide) ?_
      refine Go.iloadN X0 hx (pc' := 33) rfl (hb hby d2_32) rfl ?_
      refine Go.iconst X0 hx (pc' := 34) rfl (hb hby d2_33) (v := (3 : Int32)) rfl ?_
      refine Go.icmpYes X0 hx (pc' := 52) (hb hby d2_34) (by decide) (by decide) (by decide) ?_
      refine Go.iloadN X0 hx (pc' := 53) rfl (hb hby d2_52) rfl ?_
      refine Go.iconst X0 hx (pc' := 54) rfl (hb hby d2_53) (v := (4 : Int32)) rfl ?_
      refine Go.icmpYes X0 hx (pc' := 72) (hb hby d2_54) (by decide) (by decide) (by decide) ?_
      refine Go.iloadN X0 hx (pc' := 73) rfl (hb hby d2_72) rfl ?_
      refine Go.sipush X0 hx (pc' := 76) rfl (hb hby d2_73) (v := (503 : Int32)) (by decide) ?_
      by_cases hc28 : p0 = (503 : Int32)
      · refine Go.icmpNo X0 hx (pc' := 79) rfl (hb hby d2_76) (teq hc28).2 ?_
        have fk29 : Sta Z h0 "com/example/rockhopper/rockhopper/model/ExitCode" "RATE_LIMITED" "Lcom/example/rockhopper/rockhopper/model/ExitCode;" (.ref arl) := G3.ext O0.2
        refine Go.getS X0 hx hZ hown (host := "") (Or.inl (tw_23 hw)) Via.refl e0 fk29 (pc' := 82) rfl (hb hby d2_79) ?_
        intro T30 e30 X30
        refine Go.retR X30 hx hlk (t := (.object "com/example/rockhopper/rockhopper/model/ExitCode")) hret rfl rfl (hb hby d2_82) (by decide) (by decide) ?_
        try rw [e30]
        have i_hc1 : 200 ≤ p0.toInt := own_nlt hc1 rfl (by decide)
        have i_hc7 : 600 ≤ p0.toInt := own_nlt hc7 rfl (by decide)
        have i_hc28 : p0.toInt = 503 := own_ieq hc28 rfl (by decide)
        refine ⟨?_, rfl, rfl⟩
        unfold own_ec
        repeat' split
        all_goals first | rfl | (exfalso; omega)
      · refine Go.icmpYes X0 hx (pc' := 83) (hb hby d2_76) (feq hc28).2 (by decide) (by decide) ?_
        have fk31 : Sta Z h0 "com/example/rockhopper/rockhopper/model/ExitCode" "HTTP_SERVER_ERROR" "Lcom/example/rockhopper/rockhopper/model/ExitCode;" (.ref ase) := G5.ext O0.2
        refine Go.getS X0 hx hZ hown (host := "") (Or.inl (tw_17 hw)) Via.refl e0 fk31 (pc' := 86) rfl (hb hby d2_83) ?_
        intro T32 e32 X32
        refine Go.retR X32 hx hlk (t := (.object "com/example/rockhopper/rockhopper/model/ExitCode")) hret rfl rfl (hb hby d2_86) (by decide) (by decide) ?_
        try rw [e32]
        have i_hc1 : 200 ≤ p0.toInt := own_nlt hc1 rfl (by decide)
        have i_hc7 : 600 ≤ p0.toInt := own_nlt hc7 rfl (by decide)
        have i_hc28 : p0.toInt ≠ 503 := own_ine hc28 rfl (by decide)
        refine ⟨?_, rfl, rfl⟩
        unfold own_ec
        repeat' split
        all_goals first | rfl | (exfalso; omega)
theorem ef_0_II (m : MethodId) (x0 : Int32) (x1 : Int32) : entryFrame m #[(.int x0), (.int x1)] maxLocals = mkF m 0 #[.val (.int x0), .val (.int x1), .unset, .unset] [] := by first | (simp [entryFrame, mkF, argsToLocals, Value.category, maxLocals]; done) | rfl
theorem pd_0 : parseMethodDescriptor "(I)Lcom/example/rockhopper/rockhopper/model/ExitCode;" = some ⟨[.int], some (.object "com/example/rockhopper/rockhopper/model/ExitCode")⟩ := by decide +kernel
set_option maxRecDepth 65536 in
set_option maxHeartbeats 4000000 in
theorem rm0 (l : Launch) (Z : State) (a0 : Array Value) (hw : ∀ d ∈ tables_1, d.before a0 Z = true) (p0 : Int32) (p1 : Int32) (aok : Addr) (anm : Addr) (ard : Addr) (arl : Addr) (ace : Addr) (ase : Addr) (h0 : Heap) (n0 : Nat) (Z0 : n0 ≤ h0.size) (O0 : Old Z n0 h0) (G : Glob Z aok anm ard arl ace ase) :
    Ctr l Z x code maxLocals ret room_1 #[(.int p0), (.int p1)] h0 (fun v h L => v = some (.int (1 : Int32)) ∧ Fr n0 L) := by
  refine Ctr.of (plainFor_of_name pn_c1) ?_
  intro p e s m below meth c T0 hx hZ hby hml hown hnm hret hlk e0 es X0
  refine Go.cast (ef_0_II m p0 p1) ?_
  have G' := G
  obtain ⟨G0, G1, G2, G3, G4, G5⟩ := G'
  refine Go.bipush X0 hx (pc' := 2) rfl (hb hby at_0) (v := (16 : Int32)) (by decide) ?_
  refine Go.newarray X0 hx hZ (ty := .int) rfl (tw_0 hw) e0 (by decide) (cap := 16) (by decide) (by decide) (by decide) (by decide) (ad := "[I") (by decide) 16 (pc' := 4) rfl (hb hby at_2) ?_
  intro T1 h1 b1 k1 e1 E1 g1 V1 A1 X1
  have V1' : Arv Z h1 b1 k1 .int (16 : Int32) [(.int 0), (.int 0), (.int 0), (.int 0), (.int 0), (.int 0), (.int 0), (.int 0), (.int 0), (.int 0), (.int 0), (.int 0), (.int 0), (.int 0), (.int 0), (.int 0)] (.int 0) := V1
  refine Go.dup X1 hx (pc' := 5) rfl (hb hby at_4) rfl ?_
  refine Go.iconst X1 hx (pc' := 6) rfl (hb hby at_5) (v := (0 : Int32)) rfl ?_
  refine Go.sipush X1 hx (pc' := 9) rfl (hb hby at_6) (v := (199 : Int32)) (by decide) ?_
  have sz3 : h0.size ≤ b1 := Nat.le_trans (Keep.refl h0 []).1 (Nat.le_of_eq g1.symm)
  have ge2 : n0 ≤ b1 := Nat.le_trans Z0 sz3
  refine Go.iastore X1 hx hZ e1 V1' ⟨by decide, by decide⟩ 0 rfl (Nat.le_of_ble_eq_true rfl) (pc' := 10) rfl (hb hby at_9) ?_
  intro T4 h4 e4 W4 V4 X4
  have N4 := Fr.snoc X4 (Fr.nil n0) ge2
  refine Go.dup X4 hx (pc' := 11) rfl (hb hby at_10) rfl ?_
  refine Go.iconst X4 hx (pc' := 12) rfl (hb hby at_11) (v := (1 : Int32)) rfl ?_
  refine Go.sipush X4 hx (pc' := 15) rfl (hb hby at_12) (v := (200 : Int32)) (by decide) ?_
  refine Go.iastore X4 hx hZ e4 V4 ⟨by decide, by decide⟩ 1 rfl (Nat.le_of_ble_eq_true rfl) (pc' := 16) rfl (hb hby at_15) ?_
  intro T5 h5 e5 W5 V5 X5
  have N5 := Fr.snoc X5 N4 ge2
  refine Go.dup X5 hx (pc' := 17) rfl (hb hby at_16) rfl ?_
  refine Go.iconst X5 hx (pc' := 18) rfl (hb hby at_17) (v := (2 : Int32)) rfl ?_
  refine Go.sipush X5 hx (pc' := 21) rfl (hb hby at_18) (v := (299 : Int32)) (by decide) ?_
  refine Go.iastore X5 hx hZ e5 V5 ⟨by decide, by decide⟩ 2 rfl (Nat.le_of_ble_eq_true rfl) (pc' := 22) rfl (hb hby at_21) ?_
  intro T6 h6 e6 W6 V6 X6
  have N6 := Fr.snoc X6 N5 ge2
  refine Go.dup X6 hx (pc' := 23) rfl (hb hby at_22) rfl ?_
  refine Go.iconst X6 hx (pc' := 24) rfl (hb hby at_23) (v := (3 : Int32)) rfl ?_
  refine Go.sipush X6 hx (pc' := 27) rfl (hb hby at_24) (v := (300 : Int32)) (by decide) ?_
  refine Go.iastore X6 hx hZ e6 V6 ⟨by decide, by decide⟩ 3 rfl (Nat.le_of_ble_eq_true rfl) (pc' := 28) rfl (hb hby at_27) ?_
  intro T7 h7 e7 W7 V7 X7
  have N7 := Fr.snoc X7 N6 ge2
  refine Go.dup X7 hx (pc' := 29) rfl (hb hby at_28) rfl ?_
  refine Go.iconst X7 hx (pc' := 30) rfl (hb hby at_29) (v := (4 : Int32)) rfl ?_
  refine Go.sipush X7 hx (pc' := 33) rfl (hb hby at_30) (v := (303 : Int32)) (by decide) ?_
  refine Go.iastore X7 hx hZ e7 V7 ⟨by decide, by decide⟩ 4 rfl (Nat.le_of_ble_eq_true rfl) (pc' := 34) rfl (hb hby at_33) ?_
  intro T8 h8 e8 W8 V8 X8
  have N8 := Fr.snoc X8 N7 ge2
  refine Go.dup X8 hx (pc' := 35) rfl (hb hby at_34) rfl ?_
  refine Go.iconst X8 hx (pc' := 36) rfl (hb hby at_35) (v := (5 : Int32)) rfl ?_
  refine Go.sipush X8 hx (pc' := 39) rfl (hb hby at_36) (v := (304 : Int32)) (by decide) ?_
  refine Go.iastore X8 hx hZ e8 V8 ⟨by decide, by decide⟩ 5 rfl (Nat.le_of_ble_eq_true rfl) (pc' := 40) rfl (hb hby at_39) ?_
  intro T9 h9 e9 W9 V9 X9
  have N9 := Fr.snoc X9 N8 ge2
  refine Go.dup X9 hx (pc' := 41) rfl (hb hby at_40) rfl ?_
  refine Go.bipush X9 hx (pc' := 43) rfl (hb hby at_41) (v := (6 : Int32)) (by decide) ?_
  refine Go.sipush X9 hx (pc' := 46) rfl (hb hby at_43) (v := (305 : Int32)) (by decide) ?_
  refine Go.iastore X9 hx hZ e9 V9 ⟨by decide, by decide⟩ 6 rfl (Nat.le_of_ble_eq_true rfl) (pc' := 47) rfl (hb hby at_46) ?_
  intro T10 h10 e10 W10 V10 X10
  have N10 := Fr.snoc X10 N9 ge2
  refine Go.dup X10 hx (pc' := 48) rfl (hb hby at_47) rfl ?_
  refine Go.bipush X10 hx (pc' := 50) rfl (hb hby at_48) (v := (7 : Int32)) (by decide) ?_
  refine Go.sipush X10 hx (pc' := 53) rfl (hb hby at_50) (v := (399 : Int32)) (by decide) ?_
  refine Go.iastore X10 hx hZ e10 V10 ⟨by decide, by decide⟩ 7 rfl (Nat.le_of_ble_eq_true rfl) (pc' := 54) rfl (hb hby at_53) ?_
  intro T11 h11 e11 W11 V11 X11
  have N11 := Fr.snoc X11 N10 ge2
  refine Go.dup X11 hx (pc' := 55) rfl (hb hby at_54) rfl ?_
  refine Go.bipush X11 hx (pc' := 57) rfl (hb hby at_55) (v := (8 : Int32)) (by decide) ?_
  refine Go.sipush X11 hx (pc' := 60) rfl (hb hby at_57) (v := (400 : Int32)) (by decide) ?_
  refine Go.iastore X11 hx hZ e11 V11 ⟨by decide, by decide⟩ 8 rfl (Nat.le_of_ble_eq_true rfl) (pc' := 61) rfl (hb hby at_60) ?_
  intro T12 h12 e12 W12 V12 X12
  have N12 := Fr.snoc X12 N11 ge2
  refine Go.dup X12 hx (pc' := 62) rfl (hb hby at_61) rfl ?_
  refine Go.bipush X12 hx (pc' := 64) rfl (hb hby at_62) (v := (9 : Int32)) (by decide) ?_
  refine Go.sipush X12 hx (pc' := 67) rfl (hb hby at_64) (v := (428 : Int32)) (by decide) ?_
  refine Go.iastore X12 hx hZ e12 V12 ⟨by decide, by decide⟩ 9 rfl (Nat.le_of_ble_eq_true rfl) (pc' := 68) rfl (hb hby at_67) ?_
  intro T13 h13 e13 W13 V13 X13
  have N13 := Fr.snoc X13 N12 ge2
  refine Go.dup X13 hx (pc' := 69) rfl (hb hby at_68) rfl ?_
  refine Go.bipush X13 hx (pc' := 71) rfl (hb hby at_69) (v := (10 : Int32)) (by decide) ?_
  refine Go.sipush X13 hx (pc' := 74) rfl (hb hby at_71) (v := (429 : Int32)) (by decide) ?_
  refine Go.iastore X13 hx hZ e13 V13 ⟨by decide, by decide⟩ 10 rfl (Nat.le_of_ble_eq_true rfl) (pc' := 75) rfl (hb hby at_74) ?_
  intro T14 h14 e14 W14 V14 X14
  have N14 := Fr.snoc X14 N13 ge2
  refine Go.dup X14 hx (pc' := 76) rfl (hb hby at_75) rfl ?_
  refine Go.bipush X14 hx (pc' := 78) rfl (hb hby at_76) (v := (11 : Int32)) (by decide) ?_
  refine Go.sipush X14 hx (pc' := 81) rfl (hb hby at_78) (v := (430 : Int32)) (by decide) ?_
  refine Go.iastore X14 hx hZ e14 V14 ⟨by decide, by decide⟩ 11 rfl (Nat.le_of_ble_eq_true rfl) (pc' := 82) rfl (hb hby at_81) ?_
  intro T15 h15 e15 W15 V15 X15
  have N15 := Fr.snoc X15 N14 ge2
  refine Go.dup X15 hx (pc' := 83) rfl (hb hby at_82) rfl ?_
  refine Go.bipush X15 hx (pc' := 85) rfl (hb hby at_83) (v := (12 : Int32)) (by decide) ?_
  refine Go.sipush X15 hx (pc' := 88) rfl (hb hby at_85) (v := (499 : Int32)) (by decide) ?_
  refine Go.iastore X15 hx hZ e15 V15 ⟨by decide, by decide⟩ 12 rfl (Nat.le_of_ble_eq_true rfl) (pc' := 89) rfl (hb hby at_88) ?_
  intro T16 h16 e16 W16 V16 X16
  have N16 := Fr.snoc X16 N15 ge2
  refine Go.dup X16 hx (pc' := 90) rfl (hb hby at_89) rfl ?_
  refine Go.bipush X16 hx (pc' := 92) rfl (hb hby at_90) (v := (13 : Int32)) (by decide) ?_
  refine Go.sipush X16 hx (pc' := 95) rfl (hb hby at_92) (v := (500 : Int32)) (by decide) ?_
  refine Go.iastore X16 hx hZ e16 V16 ⟨by decide, by decide⟩ 13 rfl (Nat.le_of_ble_eq_true rfl) (pc' := 96) rfl (hb hby at_95) ?_
  intro T17 h17 e17 W17 V17 X17
  have N17 := Fr.snoc X17 N16 ge2
  refine Go.dup X17 hx (pc' := 97) rfl (hb hby at_96) rfl ?_
  refine Go.bipush X17 hx (pc' := 99) rfl (hb hby at_97) (v := (14 : Int32)) (by decide) ?_
  refine Go.sipush X17 hx (pc' := 102) rfl (hb hby at_99) (v := (503 : Int32)) (by decide) ?_
  refine Go.iastore X17 hx hZ e17 V17 ⟨by decide, by decide⟩ 14 rfl (Nat.le_of_ble_eq_true rfl) (pc' := 103) rfl (hb hby at_102) ?_
  intro T18 h18 e18 W18 V18 X18
  have N18 := Fr.snoc X18 N17 ge2
  refine Go.dup X18 hx (pc' := 104) rfl (hb hby at_103) rfl ?_
  refine Go.bipush X18 hx (pc' := 106) rfl (hb hby at_104) (v := (15 : Int32)) (by decide) ?_
  refine Go.sipush X18 hx (pc' := 109) rfl (hb hby at_106) (v := (600 : Int32)) (by decide) ?_
  refine Go.iastore X18 hx hZ e18 V18 ⟨by decide, by decide⟩ 15 rfl (Nat.le_of_ble_eq_true rfl) (pc' := 110) rfl (hb hby at_109) ?_
  intro T19 h19 e19 W19 V19 X19
  have N19 := Fr.snoc X19 N18 ge2
  refine Go.astoreN X19 hx (pc' := 111) rfl (hb hby at_110) (Ls' := #[.val (.int p0), .val (.int p1), .val (.ref b1), .unset]) rfl rfl ?_
  refine Go.iloadN X19 hx (pc' := 112) rfl (hb hby at_111) rfl ?_
  refine Go.bipush X19 hx (pc' := 114) rfl (hb hby at_112) (v := (16 : Int32)) (by decide) ?_
  refine Go.iand X19 hx (pc' := 115) rfl (hb hby at_114) ?_
  by_cases hc20 : (p1 &&& (16 : Int32)) = (0 : Int32)
  · refine Go.ifYes X19 hx (pc' := 122) (hb hby at_115) (teq hc20).1 (by decide) (by decide) ?_
    refine Go.aloadN X19 hx (pc' := 123) rfl (hb hby at_122) rfl rfl ?_
    refine Go.iloadN X19 hx (pc' := 124) rfl (hb hby at_123) rfl ?_
    refine Go.bipush X19 hx (pc' := 126) rfl (hb hby at_124) (v := (15 : Int32)) (by decide) ?_
    refine Go.iand X19 hx (pc' := 127) rfl (hb hby at_126) ?_
    have V21 : Arv Z h19 b1 k1 .int (16 : Int32) [(.int 199), (.int 200), (.int 299), (.int 300), (.int 303), (.int 304), (.int 305), (.int 399), (.int 400), (.int 428), (.int 429), (.int 430), (.int 499), (.int 500), (.int 503), (.int 600)] (.int 0) := V19
    have hj0 := c_and p1 (15 : Int32) (by decide)
    rw [show (15 : Int32).toInt = 15 from by decide] at hj0
    obtain ⟨sv, hsv⟩ : ∃ sv : Int32, ([(.int 199), (.int 200), (.int 299), (.int 300), (.int 303), (.int 304), (.int 305), (.int 399), (.int 400), (.int 428), (.int 429), (.int 430), (.int 499), (.int 500), (.int 503), (.int 600)] : List Value).getD (p1 &&& (15 : Int32)).toNatClampNeg (.int (0 : Int32)) = .int sv := ⟨_, own_getDI [(199 : Int32), (200 : Int32), (299 : Int32), (300 : Int32), (303 : Int32), (304 : Int32), (305 : Int32), (399 : Int32), (400 : Int32), (428 : Int32), (429 : Int32), (430 : Int32), (499 : Int32), (500 : Int32), (503 : Int32), (600 : Int32)] _ _⟩
    refine Go.iaload X19 hx hZ e19 V21 (v := (.int sv)) (own_in (n := 16) hj0.1 (by omega) (by decide)) hsv (pc' := 128) rfl (hb hby at_127) ?_
    refine Go.istoreN X19 hx (pc' := 129) rfl (hb hby at_128) (Ls' := #[.val (.int p0), .val (.int p1), .val (.ref b1), .val (.int sv)]) rfl ?_
    refine Go.iloadN X19 hx (pc' := 130) rfl (hb hby at_129) rfl ?_
    have Kp23 : Keep h0 h1 [] := ((Keep.refl h0 []).ext E1)
    have Kp24 : Keep h0 h4 [] := (Kp23.wr W4 (Or.inr sz3))
    have Kp25 : Keep h0 h5 [] := (Kp24.wr W5 (Or.inr sz3))
    have Kp26 : Keep h0 h6 [] := (Kp25.wr W6 (Or.inr sz3))
    have Kp27 : Keep h0 h7 [] := (Kp26.wr W7 (Or.inr sz3))
    have Kp28 : Keep h0 h8 [] := (Kp27.wr W8 (Or.inr sz3))
    have Kp29 : Keep h0 h9 [] := (Kp28.wr W9 (Or.inr sz3))
    have Kp30 : Keep h0 h10 [] := (Kp29.wr W10 (Or.inr sz3))
    have Kp31 : Keep h0 h11 [] := (Kp30.wr W11 (Or.inr sz3))
    have Kp32 : Keep h0 h12 [] := (Kp31.wr W12 (Or.inr sz3))
    have Kp33 : Keep h0 h13 [] := (Kp32.wr W13 (Or.inr sz3))
    have Kp34 : Keep h0 h14 [] := (Kp33.wr W14 (Or.inr sz3))
    have Kp35 : Keep h0 h15 [] := (Kp34.wr W15 (Or.inr sz3))
    have Kp36 : Keep h0 h16 [] := (Kp35.wr W16 (Or.inr sz3))
    have Kp37 : Keep h0 h17 [] := (Kp36.wr W17 (Or.inr sz3))
    have Kp38 : Keep h0 h18 [] := (Kp37.wr W18 (Or.inr sz3))
    have Kp39 : Keep h0 h19 [] := (Kp38.wr W19 (Or.inr sz3))
    have Zn22 : n0 ≤ h19.size := Nat.le_trans Z0 Kp39.1
    have O40 := (O0.ext E1)
    have O41 := (O40.wr W4 ge2)
    have O42 := (O41.wr W5 ge2)
    have O43 := (O42.wr W6 ge2)
    have O44 := (O43.wr W7 ge2)
    have O45 := (O44.wr W8 ge2)
    have O46 := (O45.wr W9 ge2)
    have O47 := (O46.wr W10 ge2)
    have O48 := (O47.wr W11 ge2)
    have O49 := (O48.wr W12 ge2)
    have O50 := (O49.wr W13 ge2)
    have O51 := (O50.wr W14 ge2)
    have O52 := (O51.wr W15 ge2)
    have O53 := (O52.wr W16 ge2)
    have O54 := (O53.wr W17 ge2)
    have O55 := (O54.wr W18 ge2)
    have O56 := (O55.wr W19 ge2)
    refine Go.callS X19 hx hZ hown (tw_1 hw) (tw_2 hw) (tw_3 hw) (tw_4 hw) (by decide) (tw_4 hw) (tw_3 hw) (rm_of l Z a0 hw sv aok anm ard arl ace ase h19 n0 Zn22 O56 G) e19 (argsL := [(.int sv)]) (rest := []) (pc' := 133) rfl (by rw [hml]; rfl) (lenOf pd_0 rfl) rfl rfl (W := 0) (Nat.le_of_eq rfl) (by decide) (by decide) (by decide) (by decide) (hb hby at_130) ?_
    intro v57 T57 L57 q57 X57
    obtain ⟨rfl, rfl, e57⟩ := q57
    show Go _ _ _ _ (T57.setTop (mkF m 133 #[.val (.int p0), .val (.int p1), .val (.ref b1), .val (.int sv)] [(.ref (own_ec sv.toInt aok anm ard arl ace ase))]))
    refine Go.iloadN X57 hx (pc' := 134) rfl (hb hby at_133) rfl ?_
    refine Go.callS X57 hx hZ hown (tw_7 hw) (tw_8 hw) (tw_9 hw) (tw_10 hw) (by decide) (tw_10 hw) (tw_9 hw) (rm_ex l Z a0 hw sv aok anm ard arl ace ase h19 n0 Zn22 O56 G) e57 (argsL := [(.int sv)]) (rest := [(.ref (own_ec sv.toInt aok anm ard arl ace ase))]) (pc' := 137) rfl (by rw [hml]; rfl) (lenOf pd_0 rfl) rfl rfl (W := 1) (Nat.le_of_eq rfl) (by decide) (by decide) (by decide) (by decide) (hb hby at_134) ?_
    intro v58 T58 L58 q58 X58
    obtain ⟨rfl, rfl, e58⟩ := q58
    show Go _ _ _ _ (T58.setTop (mkF m 137 #[.val (.int p0), .val (.int p1), .val (.ref b1), .val (.int sv)] [(.ref (own_ec sv.toInt aok anm ard arl ace ase)), (.ref (own_ec sv.toInt aok anm ard arl ace ase))]))
    refine Go.acmp X58 hx (pc' := 140) (same := true) (hb hby at_137) rfl rfl (decide_eq_true rfl) (by decide) (by decide) ?_
    refine Go.iconst X58 hx (pc' := 141) rfl (hb hby at_140) (v := (1 : Int32)) rfl ?_
    refine Go.goto X58 hx (pc' := 145) (hb hby at_141) (by decide) (by decide) ?_
    refine Go.retN X58 hx hlk (t := .boolean) hret (by simp) (hb hby at_145) (by decide) (by decide) ?_
    try rw [e58]
    exact ⟨rfl, (Fr.app (Fr.app N19 (Fr.nil n0)) (Fr.nil n0))⟩
  · refine Go.ifNo X19 hx (pc' := 118) rfl (hb hby at_115) (feq hc20).1 ?_
    refine Go.iloadN X19 hx (pc' := 119) rfl (hb hby at_118) rfl ?_
    refine Go.goto X19 hx (pc' := 128) (hb hby at_119) (by decide) (by decide) ?_
    refine Go.istoreN X19 hx (pc' := 129) rfl (hb hby at_128) (Ls' := #[.val (.int p0), .val (.int p1), .val (.ref b1), .val (.int p0)]) rfl ?_
    refine Go.iloadN X19 hx (pc' := 130) rfl (hb hby at_129) rfl ?_
    have Kp60 : Keep h0 h1 [] := ((Keep.refl h0 []).ext E1)
    have Kp61 : Keep h0 h4 [] := (Kp60.wr W4 (Or.inr sz3))
    have Kp62 : Keep h0 h5 [] := (Kp61.wr W5 (Or.inr sz3))
    have Kp63 : Keep h0 h6 [] := (Kp62.wr W6 (Or.inr sz3))
    have Kp64 : Keep h0 h7 [] := (Kp63.wr W7 (Or.inr sz3))
    have Kp65 : Keep h0 h8 [] := (Kp64.wr W8 (Or.inr sz3))
    have Kp66 : Keep h0 h9 [] := (Kp65.wr W9 (Or.inr sz3))
    have Kp67 : Keep h0 h10 [] := (Kp66.wr W10 (Or.inr sz3))
    have Kp68 : Keep h0 h11 [] := (Kp67.wr W11 (Or.inr sz3))
    have Kp69 : Keep h0 h12 [] := (Kp68.wr W12 (Or.inr sz3))
    have Kp70 : Keep h0 h13 [] := (Kp69.wr W13 (Or.inr sz3))
    have Kp71 : Keep h0 h14 [] := (Kp70.wr W14 (Or.inr sz3))
    have Kp72 : Keep h0 h15 [] := (Kp71.wr W15 (Or.inr sz3))
    have Kp73 : Keep h0 h16 [] := (Kp72.wr W16 (Or.inr sz3))
    have Kp74 : Keep h0 h17 [] := (Kp73.wr W17 (Or.inr sz3))
    have Kp75 : Keep h0 h18 [] := (Kp74.wr W18 (Or.inr sz3))
    have Kp76 : Keep h0 h19 [] := (Kp75.wr W19 (Or.inr sz3))
    have Zn59 : n0 ≤ h19.size := Nat.le_trans Z0 Kp76.1
    have O77 := (O0.ext E1)
    have O78 := (O77.wr W4 ge2)
    have O79 := (O78.wr W5 ge2)
    have O80 := (O79.wr W6 ge2)
    have O81 := (O80.wr W7 ge2)
    have O82 := (O81.wr W8 ge2)
    have O83 := (O82.wr W9 ge2)
    have O84 := (O83.wr W10 ge2)
    have O85 := (O84.wr W11 ge2)
    have O86 := (O85.wr W12 ge2)
    have O87 := (O86.wr W13 ge2)
    have O88 := (O87.wr W14 ge2)
    have O89 := (O88.wr W15 ge2)
    have O90 := (O89.wr W16 ge2)
    have O91 := (O90.wr W17 ge2)
    have O92 := (O91.wr W18 ge2)
    have O93 := (O92.wr W19 ge2)
    refine Go.callS X19 hx hZ hown (tw_1 hw) (tw_2 hw) (tw_3 hw) (tw_4 hw) (by decide) (tw_4 hw) (tw_3 hw) (rm_of l Z a0 hw p0 aok anm ard arl ace ase h19 n0 Zn59 O93 G) e19 (argsL := [(.int p0)]) (rest := []) (pc' := 133) rfl (by rw [hml]; rfl) (lenOf pd_0 rfl) rfl rfl (W := 0) (Nat.le_of_eq rfl) (by decide) (by decide) (by decide) (by decide) (hb hby at_130) ?_
    intro v94 T94 L94 q94 X94
    obtain ⟨rfl, rfl, e94⟩ := q94
    show Go _ _ _ _ (T94.setTop (mkF m 133 #[.val (.int p0), .val (.int p1), .val (.ref b1), .val (.int p0)] [(.ref (own_ec p0.toInt aok anm ard arl ace ase))]))
    refine Go.iloadN X94 hx (pc' := 134) rfl (hb hby at_133) rfl ?_
    refine Go.callS X94 hx hZ hown (tw_7 hw) (tw_8 hw) (tw_9 hw) (tw_10 hw) (by decide) (tw_10 hw) (tw_9 hw) (rm_ex l Z a0 hw p0 aok anm ard arl ace ase h19 n0 Zn59 O93 G) e94 (argsL := [(.int p0)]) (rest := [(.ref (own_ec p0.toInt aok anm ard arl ace ase))]) (pc' := 137) rfl (by rw [hml]; rfl) (lenOf pd_0 rfl) rfl rfl (W := 1) (Nat.le_of_eq rfl) (by decide) (by decide) (by decide) (by decide) (hb hby at_134) ?_
    intro v95 T95 L95 q95 X95
    obtain ⟨rfl, rfl, e95⟩ := q95
    show Go _ _ _ _ (T95.setTop (mkF m 137 #[.val (.int p0), .val (.int p1), .val (.ref b1), .val (.int p0)] [(.ref (own_ec p0.toInt aok anm ard arl ace ase)), (.ref (own_ec p0.toInt aok anm ard arl ace ase))]))
    refine Go.acmp X95 hx (pc' := 140) (same := true) (hb hby at_137) rfl rfl (decide_eq_true rfl) (by decide) (by decide) ?_
    refine Go.iconst X95 hx (pc' := 141) rfl (hb hby at_140) (v := (1 : Int32)) rfl ?_
    refine Go.goto X95 hx (pc' := 145) (hb hby at_141) (by decide) (by decide) ?_
    refine Go.retN X95 hx hlk (t := .boolean) hret (by simp) (hb hby at_145) (by decide) (by decide) ?_
    try rw [e95]
    exact ⟨rfl, (Fr.app (Fr.app N19 (Fr.nil n0)) (Fr.nil n0))⟩
set_option maxRecDepth 65536 in
set_option maxHeartbeats 4000000 in
theorem comes_1 {Post : Tables → Env → Array Value → State → Outcome → State → Prop} (hpost : ∀ tb e args s v u, (limb_1_1.after args s (.returned v) u = true ∧ limb_1_2.after args s (.returned v) u = true ∧ True) → FrameEnd s (.returned v) u (Jvm.fieldLocs frame_1_writes args s ++ Jvm.arrayLocs frame_1_arrays args s ++ Jvm.staticLocs frame_1_statics s) 16 128 → Post tb e args s (.returned v) u) :
    ArmFor flags0 classFile x code maxLocals ret World_1 tables_1 room_1 Calls_1 rest_1 Pre_1 Post := by
  intro l hfl _ _ p e ha hc hk s m args below hf hA hF happ hP
  obtain ⟨hcalls, hrest, hpre⟩ := hP
  obtain ⟨-, -, -, hnamed, -, -, -, hat⟩ := (Spec.applies_iff hf).mp happ
  obtain ⟨hg, hn⟩ := and_e (Cond.before_iff.mp (show (Jvm.Cond.and given_1 narrow_1).before args s = true from hpre))
  obtain ⟨g1, g2⟩ := and_e hg
  obtain ⟨g3, g4⟩ := and_e g2
  obtain ⟨w0, w1, rfl⟩ : ∃ w0 w1 : Value, args = #[w0, w1] := by
    have hs : args.size = 2 := by simpa [Cond.value, given_1] using g1
    obtain ⟨L⟩ := args
    match L, hs with
    | [w0, w1], _ => exact ⟨w0, w1, rfl⟩
  have hw := fun d (hd : d ∈ tables_1) => atoms_spec (ws := Jvm.Cond.code x code maxLocals ret :: tables_1) hat d (List.mem_cons_of_mem _ hd)
  have hfit : Fit s := fun {y c} hc i hi => by
    obtain ⟨ha, rfl⟩ := Array.getElem?_eq_some_iff.mp hc
    have q := List.all_eq_true.mp ((Array.all_eq_true_iff_forall_mem.mp hF) _ (Array.getElem_mem ha)) i (List.mem_range.mpr hi)
    simpa [Array.getElem?_eq_getElem hi] using q
  obtain ⟨i0, ei0⟩ := is_v g3
  obtain rfl : w0 = (.int i0) := Option.some.inj ei0
  obtain ⟨i1, ei1⟩ := is_v g4
  obtain rfl : w1 = (.int i1) := Option.some.inj ei1
  obtain ⟨g5, g6⟩ := and_e hn
  obtain ⟨g7, g8⟩ := and_e g6
  obtain ⟨g9, g10⟩ := and_e g8
  obtain ⟨g11, g12⟩ := and_e g10
  obtain ⟨g13, g14⟩ := and_e g12
  obtain ⟨a_0, ev0⟩ := exa_v g5
  have Sx0 : Sta s s.heap "com/example/rockhopper/rockhopper/model/ExitCode" "REDIRECT" "Lcom/example/rockhopper/rockhopper/model/ExitCode;" (.ref a_0) := Sta.start ev0 (Or.inr ⟨(tw_3 hw), (tw_6 hw)⟩)
  obtain ⟨a_1, ev1⟩ := exa_v g7
  have Sx1 : Sta s s.heap "com/example/rockhopper/rockhopper/model/ExitCode" "OK" "Lcom/example/rockhopper/rockhopper/model/ExitCode;" (.ref a_1) := Sta.start ev1 (Or.inr ⟨(tw_3 hw), (tw_13 hw)⟩)
  obtain ⟨a_2, ev2⟩ := exa_v g9
  have Sx2 : Sta s s.heap "com/example/rockhopper/rockhopper/model/ExitCode" "HTTP_SERVER_ERROR" "Lcom/example/rockhopper/rockhopper/model/ExitCode;" (.ref a_2) := Sta.start ev2 (Or.inr ⟨(tw_3 hw), (tw_16 hw)⟩)
  obtain ⟨a_3, ev3⟩ := exa_v g11
  have Sx3 : Sta s s.heap "com/example/rockhopper/rockhopper/model/ExitCode" "NOT_MODIFIED" "Lcom/example/rockhopper/rockhopper/model/ExitCode;" (.ref a_3) := Sta.start ev3 (Or.inr ⟨(tw_3 hw), (tw_19 hw)⟩)
  obtain ⟨a_4, ev4⟩ := exa_v g13
  have Sx4 : Sta s s.heap "com/example/rockhopper/rockhopper/model/ExitCode" "RATE_LIMITED" "Lcom/example/rockhopper/rockhopper/model/ExitCode;" (.ref a_4) := Sta.start ev4 (Or.inr ⟨(tw_3 hw), (tw_22 hw)⟩)
  obtain ⟨a_5, ev5⟩ := exa_v g14
  have Sx5 : Sta s s.heap "com/example/rockhopper/rockhopper/model/ExitCode" "HTTP_CLIENT_ERROR" "Lcom/example/rockhopper/rockhopper/model/ExitCode;" (.ref a_5) := Sta.start ev5 (Or.inr ⟨(tw_3 hw), (tw_25 hw)⟩)
  have Ex15 := Exa.start ev0 g5
  have Ex16 := Exa.start ev1 g7
  have Ex17 := Exa.start ev2 g9
  have Ex18 := Exa.start ev3 g11
  have Ex19 := Exa.start ev4 g13
  have Ex20 := Exa.start ev5 g14
  have G : Glob s a_1 a_3 a_0 a_4 a_5 a_2 := ⟨Sx1, Sx3, Sx0, Sx4, Sx5, Sx2⟩
  obtain ⟨n, o, h1, h2, h3, _, L, rfl, ⟨rfl, N⟩, hq⟩ := (rm0 l s _ hw i0 i1 a_1 a_3 a_0 a_4 a_5 a_2 s.heap s.heap.size (Nat.le_refl _) (Old.start s) G) tables_1 p e ha hc hk s m _ below hf ((Spec.applies_iff_loose hf).mp happ).1 ⟨rfl, State.Warmed39.refl s, rfl⟩ trivial
  refine ⟨n, _, h1, h2, h3, hpost _ _ _ _ _ _ ⟨Cond.after_iff.mpr rfl, Cond.after_iff.mpr (eq_i res_at (Term.int_eval (1)) rfl), trivial⟩ ⟨hq.1, hq.2.1, (hq.2.2.sift fun y hy => Or.inr (N y hy)).mono (by decide) (by decide)⟩⟩
theorem main_1_1 : Claimed_1_1 := comes_1 fun _ _ _ _ _ _ h hF => ⟨h.1, hF⟩
theorem main_1_2 : Claimed_1_2 := comes_1 fun _ _ _ _ _ _ h hF => ⟨h.2.1, hF⟩
end Jvm.Pilot.@@N@@
namespace Jvm.Pilot.@@N@@
open Jvm Jvm.ClassFile Sem Op Lib Jvm.Free Jvm.Stand Jvm.Pilot.@@N@@.Jvm.D
/-! MADE BY PROGRAM (witnessworld.py) out of the Statement's table words and the real class files: 12 classes; the members and pool entries that the words name. The judged class is class 1, her method 2. -/
namespace start1
open Jvm.ClassFile
def u (s : String) : CpInfo := .utf8 (stringToUtf16 s)
/-- a pool by its gaps: so many unusable entries, then the entry; so many at the end -/
def gap : Nat → List CpInfo → List CpInfo
  | 0, r => r
  | n + 1, r => .unusable :: gap n r
def poolList (es : List (Nat × CpInfo)) (last : Nat) : List CpInfo := es.foldr (fun e r => gap e.1 (e.2 :: r)) (gap last [])
def pool (es : List (Nat × CpInfo)) (last : Nat) : Array CpInfo := ⟨poolList es last⟩
def fileOf (pool : Array CpInfo) (this : Nat) (attrs : Array Attribute := #[]) (ms : Array MethodInfo := #[]) (fl : Nat := 33) (sup : Nat := 0) (ifs : Array Nat := #[]) (fds : Array FieldInfo := #[]) : ClassFile where
  minorVersion := 0
  majorVersion := 65
  constantPool := pool
  accessFlags := fl
  thisClass := this
  superClass := sup
  interfaces := ifs
  fields := fds
  methods := ms
  attributes := attrs
def plain (name : String) (sup : Option ClassId) : Class where
  name := name
  kind := .ordinary
  loader := none
  accessFlags := 33
  super := sup
  interfaces := #[]
  cf := none
  fields := #[]
  methods := #[]
  instanceTypes := #[]
  staticTypes := #[]
  resolved := #[]
  callSites := []
  init := .initialized
  statics := none
  mirror := none

def pool0 : Array CpInfo := pool [(5, u "<init>"), (0, u "()V"), (1, .class_ 10), (1, u "java/lang/Object")] 113

def k0m0 : Method := { name := "<init>", desc := "()V", sig := { parameters := [], returnType := none }, accessFlags := 1, code := none }
/-- java/lang/Object -/
def k0 : Class := { plain "java/lang/Object" none with
  accessFlags := 33
  interfaces := #[]
  cf := some (fileOf pool0 8 #[] #[{ accessFlags := 1, nameIndex := 5, descriptorIndex := 6, attributes := #[] }] 33 0 #[] #[])
  fields := #[]
  methods := #[k0m0]
  instanceTypes := #[]
  staticTypes := #[]
  resolved := Array.replicate 124 none
  statics := none }

def pool1 : Array CpInfo := pool [(2, .class_ 4), (1, u "java/lang/Object"), (0, u "<init>"), (0, u "()V"), (0, .fieldref 8 9), (0, .class_ 10), (0, .nameAndType 11 12), (0, u "com/example/rockhopper/rockhopper/model/ExitCode"), (0, u "OK"), (0, u "Lcom/example/rockhopper/rockhopper/model/ExitCode;"), (0, .fieldref 8 14), (0, .nameAndType 15 12), (0, u "NOT_MODIFIED"), (0, .fieldref 8 17), (0, .nameAndType 18 12), (0, u "REDIRECT"), (0, .fieldref 8 20), (0, .nameAndType 21 12), (0, u "RATE_LIMITED"), (0, .fieldref 8 23), (0, .nameAndType 24 12), (0, u "HTTP_CLIENT_ERROR"), (0, .fieldref 8 26), (0, .nameAndType 27 12), (0, u "HTTP_SERVER_ERROR"), (0, .methodref 8 29), (0, .nameAndType 30 31), (0, u "ofHttpStatus"), (0, u "(I)Lcom/example/rockhopper/rockhopper/model/ExitCode;"), (0, .methodref 33 34), (0, .class_ 35), (0, .nameAndType 36 31), (0, u "com/example/rockhopper/rockhopper/model/ExitCodeOfHttpStatusPinLaw"), (0, u "expected"), (3, u "law"), (0, u "(II)Z")] 4

def k1m0 : Method := { name := "<init>", desc := "()V", sig := { parameters := [], returnType := none }, accessFlags := 2, code := none }
def k1c1 : Code := { maxStack := 2, maxLocals := 2, code := method_2_code, exceptionTable := #[], attributes := #[] }
def k1m1 : Method := { name := "expected", desc := "(I)Lcom/example/rockhopper/rockhopper/model/ExitCode;", sig := { parameters := [.int], returnType := some (.object "com/example/rockhopper/rockhopper/model/ExitCode") }, accessFlags := 10, code := some k1c1 }
def k1c2 : Code := { maxStack := 4, maxLocals := 4, code := code, exceptionTable := #[], attributes := #[] }
def k1m2 : Method := { name := "law", desc := "(II)Z", sig := { parameters := [.int, .int], returnType := some .boolean }, accessFlags := 9, code := some k1c2 }
/-- com/example/rockhopper/rockhopper/model/ExitCodeOfHttpStatusPinLaw -/
def k1 : Class := { plain "com/example/rockhopper/rockhopper/model/ExitCodeOfHttpStatusPinLaw" (some 0) with
  accessFlags := 49
  interfaces := #[]
  cf := some (fileOf pool1 33 #[] #[{ accessFlags := 2, nameIndex := 5, descriptorIndex := 6, attributes := #[] }, { accessFlags := 10, nameIndex := 36, descriptorIndex := 31, attributes := #[] }, { accessFlags := 9, nameIndex := 40, descriptorIndex := 41, attributes := #[] }] 49 2 #[] #[])
  fields := #[]
  methods := #[k1m0, k1m1, k1m2]
  instanceTypes := #[]
  staticTypes := #[]
  resolved := Array.replicate 46 none
  statics := none }

def pool2 : Array CpInfo := pool [(1, .class_ 2), (0, u "java/lang/constant/Constable"), (0, .class_ 4), (0, u "java/lang/Object")] 6

/-- java/lang/constant/Constable -/
def k2 : Class := { plain "java/lang/constant/Constable" (some 0) with
  accessFlags := 1537
  interfaces := #[]
  cf := some (fileOf pool2 1 #[] #[] 1537 3 #[] #[])
  fields := #[]
  methods := #[]
  instanceTypes := #[]
  staticTypes := #[]
  resolved := Array.replicate 11 none
  statics := none }

def pool3 : Array CpInfo := pool [(1, .class_ 2), (0, u "java/lang/Comparable"), (0, .class_ 4), (0, u "java/lang/Object")] 7

/-- java/lang/Comparable -/
def k3 : Class := { plain "java/lang/Comparable" (some 0) with
  accessFlags := 1537
  interfaces := #[]
  cf := some (fileOf pool3 1 #[] #[] 1537 3 #[] #[])
  fields := #[]
  methods := #[]
  instanceTypes := #[]
  staticTypes := #[]
  resolved := Array.replicate 12 none
  statics := none }

def pool4 : Array CpInfo := pool [(1, .class_ 2), (0, u "java/io/Serializable"), (0, .class_ 4), (0, u "java/lang/Object")] 2

/-- java/io/Serializable -/
def k4 : Class := { plain "java/io/Serializable" (some 0) with
  accessFlags := 1537
  interfaces := #[]
  cf := some (fileOf pool4 1 #[] #[] 1537 3 #[] #[])
  fields := #[]
  methods := #[]
  instanceTypes := #[]
  staticTypes := #[]
  resolved := Array.replicate 7 none
  statics := none }

def pool5 : Array CpInfo := pool [(2, .class_ 4), (1, u "java/lang/Enum"), (0, u "name"), (0, u "Ljava/lang/String;"), (2, u "ordinal"), (0, u "I"), (1, .class_ 14), (1, u "java/lang/Object"), (4, u "hash"), (86, .class_ 108), (1, u "java/lang/Enum$EnumDesc"), (2, .class_ 112), (0, u "java/lang/constant/Constable"), (0, .class_ 114), (0, u "java/lang/Comparable"), (0, .class_ 116), (0, u "java/io/Serializable")] 87

/-- java/lang/Enum -/
def k5 : Class := { plain "java/lang/Enum" (some 0) with
  accessFlags := 1057
  interfaces := #[2, 3, 4]
  cf := some (fileOf pool5 2 #[.nestMembers #[106]] #[] 1057 12 #[111, 113, 115] #[{ accessFlags := 18, nameIndex := 5, descriptorIndex := 6, attributes := #[] }, { accessFlags := 18, nameIndex := 9, descriptorIndex := 10, attributes := #[] }, { accessFlags := 2, nameIndex := 19, descriptorIndex := 10, attributes := #[] }])
  fields := #[{ name := "name", type := (.object "java/lang/String"), accessFlags := 18, slot := 0, constantValue := 0 }, { name := "ordinal", type := .int, accessFlags := 18, slot := 1, constantValue := 0 }, { name := "hash", type := .int, accessFlags := 2, slot := 2, constantValue := 0 }]
  methods := #[]
  instanceTypes := #[(.object "java/lang/String"), .int, .int]
  staticTypes := #[]
  resolved := Array.replicate 204 none
  statics := none }

def pool6 : Array CpInfo := pool [(1, .class_ 2), (0, u "com/example/rockhopper/rockhopper/model/ExitCode"), (0, .fieldref 1 4), (0, .nameAndType 5 6), (0, u "OK"), (0, u "Lcom/example/rockhopper/rockhopper/model/ExitCode;"), (0, .fieldref 1 8), (0, .nameAndType 9 6), (0, u "NOT_MODIFIED"), (0, .fieldref 1 11), (0, .nameAndType 12 6), (0, u "REDIRECT"), (0, .fieldref 1 14), (0, .nameAndType 15 6), (0, u "HTTP_CLIENT_ERROR"), (0, .fieldref 1 17), (0, .nameAndType 18 6), (0, u "HTTP_SERVER_ERROR"), (0, .fieldref 1 20), (0, .nameAndType 21 6), (0, u "RATE_LIMITED"), (2, u "TIMEOUT"), (2, u "NETWORK_ERROR"), (2, u "BLOCKED_BY_ROBOTS_TXT"), (2, u "BLOCKED_URL_BY_LOCAL_POLICY"), (2, u "NOINDEX"), (2, u "NOT_CANONICAL"), (2, u "$VALUES"), (0, u "[Lcom/example/rockhopper/rockhopper/model/ExitCode;"), (6, .class_ 52), (1, u "java/lang/Enum"), (30, u "ofHttpStatus"), (0, u "(I)Lcom/example/rockhopper/rockhopper/model/ExitCode;")] 5

def k6c0 : Code := { maxStack := 2, maxLocals := 1, code := prog_6_method_4_code, exceptionTable := #[], attributes := #[] }
def k6m0 : Method := { name := "ofHttpStatus", desc := "(I)Lcom/example/rockhopper/rockhopper/model/ExitCode;", sig := { parameters := [.int], returnType := some (.object "com/example/rockhopper/rockhopper/model/ExitCode") }, accessFlags := 9, code := some k6c0 }
/-- com/example/rockhopper/rockhopper/model/ExitCode -/
def k6 : Class := { plain "com/example/rockhopper/rockhopper/model/ExitCode" (some 5) with
  accessFlags := 16433
  interfaces := #[]
  cf := some (fileOf pool6 1 #[] #[{ accessFlags := 9, nameIndex := 83, descriptorIndex := 84, attributes := #[] }] 16433 50 #[] #[{ accessFlags := 16409, nameIndex := 5, descriptorIndex := 6, attributes := #[] }, { accessFlags := 16409, nameIndex := 9, descriptorIndex := 6, attributes := #[] }, { accessFlags := 16409, nameIndex := 12, descriptorIndex := 6, attributes := #[] }, { accessFlags := 16409, nameIndex := 15, descriptorIndex := 6, attributes := #[] }, { accessFlags := 16409, nameIndex := 18, descriptorIndex := 6, attributes := #[] }, { accessFlags := 16409, nameIndex := 21, descriptorIndex := 6, attributes := #[] }, { accessFlags := 16409, nameIndex := 24, descriptorIndex := 6, attributes := #[] }, { accessFlags := 16409, nameIndex := 27, descriptorIndex := 6, attributes := #[] }, { accessFlags := 16409, nameIndex := 30, descriptorIndex := 6, attributes := #[] }, { accessFlags := 16409, nameIndex := 33, descriptorIndex := 6, attributes := #[] }, { accessFlags := 16409, nameIndex := 36, descriptorIndex := 6, attributes := #[] }, { accessFlags := 16409, nameIndex := 39, descriptorIndex := 6, attributes := #[] }, { accessFlags := 4122, nameIndex := 42, descriptorIndex := 43, attributes := #[] }])
  fields := #[{ name := "OK", type := (.object "com/example/rockhopper/rockhopper/model/ExitCode"), accessFlags := 16409, slot := 0, constantValue := 0 }, { name := "NOT_MODIFIED", type := (.object "com/example/rockhopper/rockhopper/model/ExitCode"), accessFlags := 16409, slot := 1, constantValue := 0 }, { name := "REDIRECT", type := (.object "com/example/rockhopper/rockhopper/model/ExitCode"), accessFlags := 16409, slot := 2, constantValue := 0 }, { name := "HTTP_CLIENT_ERROR", type := (.object "com/example/rockhopper/rockhopper/model/ExitCode"), accessFlags := 16409, slot := 3, constantValue := 0 }, { name := "HTTP_SERVER_ERROR", type := (.object "com/example/rockhopper/rockhopper/model/ExitCode"), accessFlags := 16409, slot := 4, constantValue := 0 }, { name := "RATE_LIMITED", type := (.object "com/example/rockhopper/rockhopper/model/ExitCode"), accessFlags := 16409, slot := 5, constantValue := 0 }, { name := "TIMEOUT", type := (.object "com/example/rockhopper/rockhopper/model/ExitCode"), accessFlags := 16409, slot := 6, constantValue := 0 }, { name := "NETWORK_ERROR", type := (.object "com/example/rockhopper/rockhopper/model/ExitCode"), accessFlags := 16409, slot := 7, constantValue := 0 }, { name := "BLOCKED_BY_ROBOTS_TXT", type := (.object "com/example/rockhopper/rockhopper/model/ExitCode"), accessFlags := 16409, slot := 8, constantValue := 0 }, { name := "BLOCKED_URL_BY_LOCAL_POLICY", type := (.object "com/example/rockhopper/rockhopper/model/ExitCode"), accessFlags := 16409, slot := 9, constantValue := 0 }, { name := "NOINDEX", type := (.object "com/example/rockhopper/rockhopper/model/ExitCode"), accessFlags := 16409, slot := 10, constantValue := 0 }, { name := "NOT_CANONICAL", type := (.object "com/example/rockhopper/rockhopper/model/ExitCode"), accessFlags := 16409, slot := 11, constantValue := 0 }, { name := "$VALUES", type := (.array (.object "com/example/rockhopper/rockhopper/model/ExitCode")), accessFlags := 4122, slot := 12, constantValue := 0 }]
  methods := #[k6m0]
  instanceTypes := #[(.object "java/lang/String"), .int, .int]
  staticTypes := #[(.object "com/example/rockhopper/rockhopper/model/ExitCode"), (.object "com/example/rockhopper/rockhopper/model/ExitCode"), (.object "com/example/rockhopper/rockhopper/model/ExitCode"), (.object "com/example/rockhopper/rockhopper/model/ExitCode"), (.object "com/example/rockhopper/rockhopper/model/ExitCode"), (.object "com/example/rockhopper/rockhopper/model/ExitCode"), (.object "com/example/rockhopper/rockhopper/model/ExitCode"), (.object "com/example/rockhopper/rockhopper/model/ExitCode"), (.object "com/example/rockhopper/rockhopper/model/ExitCode"), (.object "com/example/rockhopper/rockhopper/model/ExitCode"), (.object "com/example/rockhopper/rockhopper/model/ExitCode"), (.object "com/example/rockhopper/rockhopper/model/ExitCode"), (.array (.object "com/example/rockhopper/rockhopper/model/ExitCode"))]
  resolved := Array.replicate 90 none
  statics := some 0 }

def pool7 : Array CpInfo := pool [(1, u "java/lang/Cloneable"), (0, .class_ 1), (0, u "java/lang/Object"), (0, .class_ 3)] 3

/-- java/lang/Cloneable -/
def k7 : Class := { plain "java/lang/Cloneable" (some 0) with
  accessFlags := 1537
  interfaces := #[]
  cf := some (fileOf pool7 2 #[] #[] 1537 4 #[] #[])
  fields := #[]
  methods := #[]
  instanceTypes := #[]
  staticTypes := #[]
  resolved := Array.replicate 8 none
  statics := none }

/-- the primitive byte -/
def k8 : Class := { plain "byte" none with kind := .primitive 'B', accessFlags := 0x411 }
/-- [B -/
def k9 : Class := { plain "[B" (some 0) with kind := .array 8 .byte, interfaces := #[7, 4], accessFlags := 1041 }

/-- the primitive int -/
def k10 : Class := { plain "int" none with kind := .primitive 'I', accessFlags := 0x411 }
/-- [I -/
def k11 : Class := { plain "[I" (some 0) with kind := .array 10 .int, interfaces := #[7, 4], accessFlags := 1041 }

def heap : Heap := #[{ cls := 6, slots := #[.ref 2, .ref 4, .ref 1, .ref 6, .ref 3, .ref 5, .null, .null, .null, .null, .null, .null, .null], vm := .statics 6 },
  { cls := 6, slots := #[.null, .int 0, .int 0], vm := .none },
  { cls := 6, slots := #[.null, .int 0, .int 0], vm := .none },
  { cls := 6, slots := #[.null, .int 0, .int 0], vm := .none },
  { cls := 6, slots := #[.null, .int 0, .int 0], vm := .none },
  { cls := 6, slots := #[.null, .int 0, .int 0], vm := .none },
  { cls := 6, slots := #[.null, .int 0, .int 0], vm := .none }]
def classes : Array Class := #[k0, k1, k2, k3, k4, k5, k6, k7, k8, k9, k10, k11]
def interned : List (Array UInt16 × Addr) := []
def slotsUsed : Nat := 31
def theMethod : MethodId := ⟨1, 2⟩
def args0 : Array Value := #[.int 5, .int 5]
def aboutOver (below : List Frame) : State where
  vm := { classes := classes, interned := interned.toArray }
  heap := heap
  slotsUsed := slotsUsed
  threads := #[{ frames := .invoking theMethod args0 :: below }]
def below0 : List Frame := [.native { method := ⟨0, 0⟩, args := #[] }]
def about1 : State := aboutOver below0
def p0 : Program := .bare "" "" ""
def e0 : Env := launch0.env 0 0 0
theorem w_frames : about1.frames = Frame.invoking theMethod args0 :: below0 := rfl
set_option maxRecDepth 65536 in
theorem w_args : argsFit about1.vm theMethod args0 = true := by decide +kernel
set_option maxRecDepth 65536 in
theorem w_heap : heapFits about1 = true := by decide +kernel
set_option maxRecDepth 65536 in
theorem w_runnable : about1.curStatus? = some .runnable := by decide +kernel
set_option maxRecDepth 65536 in
theorem w_alone : about1.alone = true := by decide +kernel
set_option maxRecDepth 65536 in
theorem w_named : about1.methodNamed? x = some theMethod := by decide +kernel
set_option maxRecDepth 65536 in
theorem w_hears : about1.hears theMethod below0 = true := by decide +kernel
set_option maxRecDepth 65536 in
theorem w_ripe : about1.ripe theMethod args0 below0 = true := by decide +kernel
theorem w_running : about1.status = .running := rfl
set_option maxRecDepth 65536 in
theorem w_room : about1.hasRoom e0.platform room_1 = true :=
  launch0.hasRoom_least _ room_1 (by decide +kernel) (by decide +kernel) (by decide +kernel) (by decide +kernel) (by decide +kernel) (by decide +kernel)
theorem allAtoms_all (ts : List Jvm.Cond) (a : Array Jvm.Value) (st : Jvm.State) : (allAtoms ts).before a st = ts.all (fun c => c.before a st) := by
  induction ts with
  | nil => rfl
  | cons c t ih =>
    show (Jvm.Cond.and c (allAtoms t)).before a st = _
    rw [Jvm.Cond.before_and, ih, List.all_cons]
def words1 : List Jvm.Cond := Jvm.Cond.code x code maxLocals ret :: tables_1
/-- a 'code' word, met by the world's own term for the bytes: nothing is compared byte by byte -/
theorem code_word {y : MethodName} {bytes : ByteArray} {mx : Nat} {rt : Option FieldType} {a : Array Value} {s : State} {m : MethodId} {meth : Method} {c : Code} (h1 : s.methodNamed? y = some m) (h2 : s.vm.method? m = some meth) (h3 : meth.code = some c) (h4 : c.code = bytes)
    (h5 : (c.maxLocals == mx && c.exceptionTable.isEmpty && decide (c.maxStack ≤ mostOperands) && decide (meth.sig.returnType = rt) && !meth.locks && decide (parseMethodDescriptor y.desc = some meth.sig)) = true) : (Jvm.Cond.code y bytes mx rt).before a s = true := by
  simp only [Bool.and_eq_true, beq_iff_eq, Bool.not_eq_true', decide_eq_true_eq] at h5
  obtain ⟨⟨⟨⟨⟨g1, g2⟩, g3⟩, g4⟩, g5⟩, g6⟩ := h5
  simp [Cond.before, Cond.holds, Cond.value, h1, h2, h3, h4, g1, g2, g3, g4, g5, g6]
def isCode : Jvm.Cond → Bool
  | .code _ _ _ _ => true
  | _ => false
theorem all_split {L : List Jvm.Cond} {P : Jvm.Cond → Bool} (h1 : L.all (fun c => isCode c || P c) = true) (h2 : ∀ c ∈ L.filter isCode, P c = true) : L.all P = true := by
  refine List.all_eq_true.mpr fun c hc => ?_
  have h := List.all_eq_true.mp h1 c hc
  rcases Bool.eq_false_or_eq_true (isCode c) with hi | hi
  · exact h2 c (List.mem_filter.mpr ⟨hc, hi⟩)
  · simpa [hi] using h
set_option maxRecDepth 65536 in
theorem w_c0 : (Jvm.Cond.code x code maxLocals ret).before args0 about1 = true := code_word (m := ⟨1, 2⟩) (meth := k1m2) (c := k1c2) (by decide +kernel) rfl rfl rfl (by decide +kernel)
set_option maxRecDepth 65536 in
theorem w_c1 : (Jvm.Cond.code ({ cls := "com/example/rockhopper/rockhopper/model/ExitCode", name := "ofHttpStatus", desc := "(I)Lcom/example/rockhopper/rockhopper/model/ExitCode;" } : Jvm.MethodName) prog_6_method_4_code (1 : Nat) (Option.some (Jvm.ClassFile.FieldType.object "com/example/rockhopper/rockhopper/model/ExitCode"))).before args0 about1 = true := code_word (m := ⟨6, 0⟩) (meth := k6m0) (c := k6c0) (by decide +kernel) rfl rfl rfl (by decide +kernel)
set_option maxRecDepth 65536 in
theorem w_c2 : (Jvm.Cond.code ({ cls := "com/example/rockhopper/rockhopper/model/ExitCodeOfHttpStatusPinLaw", name := "expected", desc := "(I)Lcom/example/rockhopper/rockhopper/model/ExitCode;" } : Jvm.MethodName) method_2_code (2 : Nat) (Option.some (Jvm.ClassFile.FieldType.object "com/example/rockhopper/rockhopper/model/ExitCode"))).before args0 about1 = true := code_word (m := ⟨1, 1⟩) (meth := k1m1) (c := k1c1) (by decide +kernel) rfl rfl rfl (by decide +kernel)
def codes1 : List Jvm.Cond := [Jvm.Cond.code x code maxLocals ret, Jvm.Cond.code ({ cls := "com/example/rockhopper/rockhopper/model/ExitCode", name := "ofHttpStatus", desc := "(I)Lcom/example/rockhopper/rockhopper/model/ExitCode;" } : Jvm.MethodName) prog_6_method_4_code (1 : Nat) (Option.some (Jvm.ClassFile.FieldType.object "com/example/rockhopper/rockhopper/model/ExitCode")), Jvm.Cond.code ({ cls := "com/example/rockhopper/rockhopper/model/ExitCodeOfHttpStatusPinLaw", name := "expected", desc := "(I)Lcom/example/rockhopper/rockhopper/model/ExitCode;" } : Jvm.MethodName) method_2_code (2 : Nat) (Option.some (Jvm.ClassFile.FieldType.object "com/example/rockhopper/rockhopper/model/ExitCode"))]
set_option maxRecDepth 65536 in
theorem codes_eq : words1.filter isCode = codes1 := rfl
theorem w_codes : ∀ c ∈ words1.filter isCode, c.before args0 about1 = true := by
  rw [codes_eq]
  intro c hc
  simp only [codes1, List.mem_cons, List.not_mem_nil, or_false] at hc
  rcases hc with rfl | rfl | rfl
  · exact w_c0
  · exact w_c1
  · exact w_c2
set_option maxRecDepth 65536 in
theorem w_t1 : (words1.take 24).all (fun c => isCode c || c.before args0 about1) = true := by decide +kernel
set_option maxRecDepth 65536 in
theorem w_t2 : (words1.drop 24).all (fun c => isCode c || c.before args0 about1) = true := by decide +kernel
theorem w_tables : (allAtoms (Jvm.Cond.code x code maxLocals ret :: tables_1)).before args0 about1 = true := by
  rw [allAtoms_all]
  show words1.all (fun c => c.before args0 about1) = true
  refine all_split ?_ w_codes
  rw [← List.take_append_drop 24 words1, List.all_append, w_t1, w_t2]
  rfl
set_option maxRecDepth 65536 in
theorem w_case : (Jvm.Cond.and given_1 narrow_1).before args0 about1 = true := by decide +kernel
theorem w_applies : (headSpec (Jvm.Cond.code x code maxLocals ret :: tables_1) room_1).applies x e0.platform about1 = true :=
  (Spec.applies_iff w_frames).mpr ⟨w_running, w_runnable, w_alone, w_named, w_hears, w_ripe, w_room, w_tables⟩
theorem atStart : AtStart classFile x code maxLocals ret World_1 tables_1 room_1 Calls_1 rest_1 Pre_1 launch0 p0 e0 about1 theMethod args0 below0 :=
  ⟨lists_1, trivial, launch0.admits_env _ _ _, launch0.least_env, fairChoices_fair.cas, fairChoices_fair.clock, w_frames, w_args, w_heap, w_applies, trivial, trivial, w_case⟩
end start1
theorem witness_1 : WitnessClaimed_1 := ⟨start1.p0, start1.e0, start1.about1, start1.theMethod, start1.args0, start1.below0, start1.atStart⟩
end Jvm.Pilot.@@N@@
