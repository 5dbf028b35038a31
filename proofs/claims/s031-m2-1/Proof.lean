import JvmDerived
import JvmDerived.Pilot.@@N@@Statement
import JvmDerived.Pilot.@@N@@Code
set_option linter.unusedVariables false
set_option linter.unusedSimpArgs false
namespace Jvm.Pilot.@@N@@
open Jvm Jvm.ClassFile Sem Op Lib Jvm.Free Jvm.Stand Jvm.LawKit Jvm.RoadKit Bundle Jvm.Pilot.@@N@@.Jvm.D
section Own
variable {p : Program} {l : Launch} {e : Env} {R : Room} {s : State} {m : MethodId} {args : Array Value} {below : List Frame} {meth : Method} {c : Code} {T T' : State} {locs : List Loc} {cells slots : Nat} {Z : State} {a0 : Array Value} {h : Heap} {P : State → Prop} {pc q : Nat} {Ls : Array Slot} {S : List Value} {g g' : JFrame}
/-- from this state on the run comes to one of which P holds -/
def Go (p : Program) (e : Env) (below : List Frame) (P : State → Prop) (T : State) (g : JFrame) : Prop := ∃ n, Steps p.tables e below (T.setTop g) n ∧ P n
theorem Go.by_ (k : ∀ t, Steps p.tables e below (T'.setTop g') t → Steps p.tables e below (T.setTop g) t) (h : Go p e below P T' g') : Go p e below P T g := by
  obtain ⟨n, a, b⟩ := h; exact ⟨n, k n a, b⟩
theorem Go.tr (k : Steps p.tables e below (T.setTop g) (T'.setTop g')) (h : Go p e below P T' g') : Go p e below P T g := by
  obtain ⟨n, a, b⟩ := h; exact ⟨n, k.trans a, b⟩
/-- what the whole body knows of its method -/
def Kt (p : Program) (Z s : State) (m : MethodId) (meth : Method) (c : Code) (y : MethodName) (bytes : ByteArray) (maxL : Nat) (ret : Option FieldType) : Prop :=
  p.tables.exec = Jvm.exec ∧ Z.Warmed39 s.vm ∧ c.code = bytes ∧ c.maxLocals = maxL ∧ s.vm.findClass y.cls = some m.cls ∧ meth.sig.returnType = ret ∧ meth.locks = false ∧ meth.name = y.name ∧ s.methodNamed? y = some m
variable {y : MethodName} {bytes : ByteArray} {maxL : Nat} {ret : Option FieldType}
theorem Kt.x (K : Kt p Z s m meth c y bytes maxL ret) : p.tables.exec = Jvm.exec := K.1
theorem Kt.z (K : Kt p Z s m meth c y bytes maxL ret) : Z.Warmed39 s.vm := K.2.1
theorem Kt.ml (K : Kt p Z s m meth c y bytes maxL ret) : c.maxLocals = maxL := K.2.2.2.1
theorem Kt.own (K : Kt p Z s m meth c y bytes maxL ret) : s.vm.findClass y.cls = some m.cls := K.2.2.2.2.1
theorem Kt.rt (K : Kt p Z s m meth c y bytes maxL ret) : meth.sig.returnType = ret := K.2.2.2.2.2.1
theorem Kt.lk (K : Kt p Z s m meth c y bytes maxL ret) : meth.locks = false := K.2.2.2.2.2.2.1
theorem Kt.nm (K : Kt p Z s m meth c y bytes maxL ret) : meth.name = y.name := K.2.2.2.2.2.2.2.1
theorem Kt.named (K : Kt p Z s m meth c y bytes maxL ret) : s.methodNamed? y = some m := K.2.2.2.2.2.2.2.2
theorem Kt.d (K : Kt p Z s m meth c y bytes maxL ret) {r : Except DecodeError (Instr × Nat)} (h : decode bytes pc = r) : decode c.code pc = r := by rw [K.2.2.1]; exact h
/-- the end of a body -/
def Done (s : State) (below : List Frame) (Q : Option Value → Heap → List Loc → Prop) (kc ks : Nat) (n : State) : Prop :=
  ∃ o, n.status = .running ∧ Ended n below o ∧ ∃ v L, o = .returned v ∧ Q v n.heap L ∧ FrameEnd s o n L kc ks
/-- a body's contract -/
def Mt (l : Launch) (Z : State) (y : MethodName) (bytes : ByteArray) (maxL : Nat) (ret : Option FieldType) (ws : List Jvm.Cond) (rm : Room) (as' : Array Value) (h0 : Heap) (Q : Option Value → Heap → List Loc → Prop) : Prop :=
  MetFree l y (head1 (Jvm.Cond.code y bytes maxL ret :: ws) rm) (fun a U => a = as' ∧ Z.Warmed39 U.vm ∧ U.heap = h0) (fun _ _ _ _ _ => True) (fun _ U o U' => ∃ v L, o = .returned v ∧ Q v U'.heap L ∧ FrameEnd U o U' L rm.cells rm.slots)
theorem g_body {ws : List Jvm.Cond} {rm : Room} {as' : Array Value} {h0 : Heap} {Q : Option Value → Heap → List Loc → Prop} (hpl : plainFor y = true)
    (H : ∀ (p : Program) (e : Env) (s : State) (m : MethodId) (below : List Frame) (meth : Method) (c : Code) (T : State), Kt p Z s m meth c y bytes maxL ret → Stand p l e rm s m as' below meth c T [] 0 0 → T.heap = h0 → Go p e below (Done s below Q rm.cells rm.slots) T (entryFrame m as' maxL)) :
    Mt l Z y bytes maxL ret ws rm as' h0 Q := by
  refine MetFree.of_bodySF hpl hisR ?_
  intro p e s m args below meth c s₁ Bd hml0 hP hK
  obtain ⟨rfl, hZ, hh⟩ := hP
  obtain ⟨n, a, o, b1, b2, b3⟩ := H p e s m below meth c s₁ ⟨Bd.exec, hZ, Bd.bytes, hml0, findClass_of_methodNamed Bd.named, Bd.returns, BodyLoose.notSynchronized Bd, (name_of_methodNamed Bd.named Bd.method).1, Bd.named⟩ (Stand.of_body Bd) (by rw [← hh, Bd.state]; rfl)
  exact ⟨n, o, a, b1, b2, b3⟩
variable {Q : Option Value → Heap → List Loc → Prop} {kc ks : Nat}
theorem g_entry (q : g = g') (h : Go p e below P T g') : Go p e below P T g := q ▸ h
/-! returns -/
theorem G17 (X : Stand p l e R s m args below meth c T locs cells slots) (K : Kt p Z s m meth c y bytes maxL none) (hd : decode bytes pc = .ok (.return_, 1)) (hc : cells ≤ kc) (hs : slots ≤ ks) (hQ : Q none T.heap locs) : Go p e below (Done s below Q kc ks) T (mkF m pc Ls []) := by
  obtain ⟨fs, hr, hrun, hended, hW, hsame⟩ := X.leave (v := none) (fun _ => rfl) K.lk
  exact ⟨_, X.returnOut K.x K.rt (K.d hd) hr, _, hrun, hended, _, _, rfl, hQ, ⟨_, rfl⟩, hW, hsame.mono hc hs⟩
theorem G18 (X : Stand p l e R s m args below meth c T locs cells slots) (K : Kt p Z s m meth c y bytes maxL (some .int)) {z : Int32} (hd : decode bytes pc = .ok (.ireturn, 1)) (hc : cells ≤ kc) (hs : slots ≤ ks) (hQ : Q (some (.int z)) T.heap locs) : Go p e below (Done s below Q kc ks) T (mkF m pc Ls (.int z :: S)) := by
  obtain ⟨fs, hr, hrun, hended, hW, hsame⟩ := X.leave (v := some (.int z)) (fun h => by rw [K.rt] at h; cases h) K.lk
  exact ⟨_, retOut X K.x K.rt rfl (Or.inl ⟨rfl, Or.inl rfl, z, rfl⟩) (K.d hd) hr, _, hrun, hended, _, _, rfl, hQ, ⟨_, rfl⟩, hW, hsame.mono hc hs⟩
theorem G31 {t : FieldType} (X : Stand p l e R s m args below meth c T locs cells slots) (K : Kt p Z s m meth c y bytes maxL (some t)) (ht : t = .boolean ∨ t = .byte ∨ t = .char ∨ t = .short) {z z' : Int32} (hn : nar t z = z') (hd : decode bytes pc = .ok (.ireturn, 1)) (hc : cells ≤ kc) (hs : slots ≤ ks) (hQ : Q (some (.int z')) T.heap locs) : Go p e below (Done s below Q kc ks) T (mkF m pc Ls (.int z :: S)) := by
  subst hn
  obtain ⟨fs, hr, hrun, hended, hW, hsame⟩ := X.leave (v := some (.int (nar t z))) (fun h => by rw [K.rt] at h; cases h) K.lk
  exact ⟨_, retN X K.x K.rt ht (K.d hd) hr, _, hrun, hended, _, _, rfl, hQ, ⟨_, rfl⟩, hW, hsame.mono hc hs⟩
theorem G13 {t : FieldType} {w : Value} (X : Stand p l e R s m args below meth c T locs cells slots) (K : Kt p Z s m meth c y bytes maxL (some t)) (ht : t.isReference = true) (hw : w.isRef = true) (hn : narrow t w = w) (hd : decode bytes pc = .ok (.areturn, 1)) (hc : cells ≤ kc) (hs : slots ≤ ks) (hQ : Q (some w) T.heap locs) : Go p e below (Done s below Q kc ks) T (mkF m pc Ls (w :: S)) := by
  obtain ⟨fs, hr, hrun, hended, hW, hsame⟩ := X.leave (v := some w) (fun h => by rw [K.rt] at h; cases h) K.lk
  exact ⟨_, retOut X K.x K.rt hn (Or.inr (Or.inr (Or.inr (Or.inr ⟨rfl, ht, hw⟩)))) (K.d hd) hr, _, hrun, hended, _, _, rfl, hQ, ⟨_, rfl⟩, hW, hsame.mono hc hs⟩
/-! plain steps -/
section Plain
theorem G1 (X : Stand p l e R s m args below meth c T locs cells slots) (K : Kt p Z s m meth c y bytes maxL ret) {k : Fin 4} {v : Int32} (hd : decode bytes pc = .ok (.iload_n k, 1)) (hl : Ls[k.val]? = some (.val (.int v))) (h : Go p e below P T (mkF m (pc + 1) Ls (.int v :: S))) : Go p e below P T (mkF m pc Ls S) := by
  exact Go.by_ (fun t k => XS.iloadN X.here K.x rfl (K.d hd) hl k) h
theorem G4 (X : Stand p l e R s m args below meth c T locs cells slots) (K : Kt p Z s m meth c y bytes maxL ret) {k : Nat} {v : Int32} (hd : decode bytes pc = .ok (.iload k, 2)) (hl : Ls[k]? = some (.val (.int v))) (h : Go p e below P T (mkF m (pc + 2) Ls (.int v :: S))) : Go p e below P T (mkF m pc Ls S) := by
  exact Go.by_ (fun t k => XS.iload X.here K.x rfl (K.d hd) hl k) h
theorem G43 (X : Stand p l e R s m args below meth c T locs cells slots) (K : Kt p Z s m meth c y bytes maxL ret) {k : Fin 4} {v : Int64} (hd : decode bytes pc = .ok (.lload_n k, 1)) (hl : Ls[k.val]? = some (.val (.long v))) (h : Go p e below P T (mkF m (pc + 1) Ls (.long v :: S))) : Go p e below P T (mkF m pc Ls S) := by
  exact Go.by_ (fun t k => XS.lloadN X.here K.x rfl (K.d hd) hl k) h
theorem G0 (X : Stand p l e R s m args below meth c T locs cells slots) (K : Kt p Z s m meth c y bytes maxL ret) {k : Fin 4} {v : Value} (hd : decode bytes pc = .ok (.aload_n k, 1)) (hl : Ls[k.val]? = some (.val v)) (hv : v.isRef = true) (h : Go p e below P T (mkF m (pc + 1) Ls (v :: S))) : Go p e below P T (mkF m pc Ls S) := by
  exact Go.by_ (fun t k => XS.aloadN X.here K.x rfl (K.d hd) hl hv k) h
theorem G7 (X : Stand p l e R s m args below meth c T locs cells slots) (K : Kt p Z s m meth c y bytes maxL ret) {k : Nat} {v : Value} (hd : decode bytes pc = .ok (.aload k, 2)) (hl : Ls[k]? = some (.val v)) (hv : v.isRef = true) (h : Go p e below P T (mkF m (pc + 2) Ls (v :: S))) : Go p e below P T (mkF m pc Ls S) := by
  exact Go.by_ (fun t k => XS.aload X.here K.x rfl (K.d hd) hl hv k) h
theorem G24 (X : Stand p l e R s m args below meth c T locs cells slots) (K : Kt p Z s m meth c y bytes maxL ret) {k : Fin 4} {v : Int32} {L' : Array Slot} (hd : decode bytes pc = .ok (.istore_n k, 1)) (hl : storeLocals Ls k.val (.int v) = some L') (h : Go p e below P T (mkF m (pc + 1) L' S)) : Go p e below P T (mkF m pc Ls (.int v :: S)) := by
  exact Go.by_ (fun t k => XS.istoreN X.here K.x rfl (K.d hd) rfl hl k) h
theorem G12 (X : Stand p l e R s m args below meth c T locs cells slots) (K : Kt p Z s m meth c y bytes maxL ret) {k : Nat} {v : Int32} {L' : Array Slot} (hd : decode bytes pc = .ok (.istore k, 2)) (hl : storeLocals Ls k (.int v) = some L') (h : Go p e below P T (mkF m (pc + 2) L' S)) : Go p e below P T (mkF m pc Ls (.int v :: S)) := by
  exact Go.by_ (fun t k => XS.istore X.here K.x rfl (K.d hd) rfl hl k) h
theorem G38 (X : Stand p l e R s m args below meth c T locs cells slots) (K : Kt p Z s m meth c y bytes maxL ret) {k : Fin 4} {v : Value} {L' : Array Slot} (hd : decode bytes pc = .ok (.astore_n k, 1)) (hv : v.isRef = true) (hl : storeLocals Ls k.val v = some L') (h : Go p e below P T (mkF m (pc + 1) L' S)) : Go p e below P T (mkF m pc Ls (v :: S)) := by
  exact Go.by_ (fun t k => XS.astoreN X.here K.x rfl (K.d hd) rfl hv hl k) h
theorem G26 (X : Stand p l e R s m args below meth c T locs cells slots) (K : Kt p Z s m meth c y bytes maxL ret) {k : Nat} {v : Value} {L' : Array Slot} (hd : decode bytes pc = .ok (.astore k, 2)) (hv : v.isRef = true) (hl : storeLocals Ls k v = some L') (h : Go p e below P T (mkF m (pc + 2) L' S)) : Go p e below P T (mkF m pc Ls (v :: S)) := by
  exact Go.by_ (fun t k => XS.astore X.here K.x rfl (K.d hd) rfl hv hl k) h
theorem G3 (X : Stand p l e R s m args below meth c T locs cells slots) (K : Kt p Z s m meth c y bytes maxL ret) {i : Int} {v : Int32} (hd : decode bytes pc = .ok (.iconst i, 1)) (hv : Int32.ofInt i = v) (h : Go p e below P T (mkF m (pc + 1) Ls (.int v :: S))) : Go p e below P T (mkF m pc Ls S) := by
  subst hv; exact Go.by_ (fun t k => XS.iconst X.here K.x rfl (K.d hd) k) h
theorem G29 (X : Stand p l e R s m args below meth c T locs cells slots) (K : Kt p Z s m meth c y bytes maxL ret) {i : Int} {v : Int32} (hd : decode bytes pc = .ok (.bipush i, 2)) (hv : (Int8.ofInt i).toInt32 = v) (h : Go p e below P T (mkF m (pc + 2) Ls (.int v :: S))) : Go p e below P T (mkF m pc Ls S) := by
  subst hv; exact Go.by_ (fun t k => XS.bipush X.here K.x rfl (K.d hd) k) h
theorem G34 (X : Stand p l e R s m args below meth c T locs cells slots) (K : Kt p Z s m meth c y bytes maxL ret) {i : Int} {v : Int32} (hd : decode bytes pc = .ok (.sipush i, 3)) (hv : (Int16.ofInt i).toInt32 = v) (h : Go p e below P T (mkF m (pc + 3) Ls (.int v :: S))) : Go p e below P T (mkF m pc Ls S) := by
  subst hv; exact Go.by_ (fun t k => XS.sipush X.here K.x rfl (K.d hd) k) h
theorem G28 (X : Stand p l e R s m args below meth c T locs cells slots) (K : Kt p Z s m meth c y bytes maxL ret) (hd : decode bytes pc = .ok (.aconst_null, 1)) (h : Go p e below P T (mkF m (pc + 1) Ls (.null :: S))) : Go p e below P T (mkF m pc Ls S) := by
  exact Go.by_ (fun t k => XS.aconstNull X.here K.x rfl (K.d hd) k) h
theorem G16 (X : Stand p l e R s m args below meth c T locs cells slots) (K : Kt p Z s m meth c y bytes maxL ret) {x y z : Int32} (hd : decode bytes pc = .ok (.iadd, 1)) (hz : x + y = z) (h : Go p e below P T (mkF m (pc + 1) Ls (.int z :: S))) : Go p e below P T (mkF m pc Ls (.int y :: .int x :: S)) := by
  subst hz; exact Go.by_ (fun t k => XS.iadd X.here K.x rfl (K.d hd) rfl k) h
theorem G45 (X : Stand p l e R s m args below meth c T locs cells slots) (K : Kt p Z s m meth c y bytes maxL ret) {x y z : Int32} (hd : decode bytes pc = .ok (.isub, 1)) (hz : x - y = z) (h : Go p e below P T (mkF m (pc + 1) Ls (.int z :: S))) : Go p e below P T (mkF m pc Ls (.int y :: .int x :: S)) := by
  subst hz; exact Go.by_ (fun t k => XS.isub X.here K.x rfl (K.d hd) rfl k) h
theorem G48 (X : Stand p l e R s m args below meth c T locs cells slots) (K : Kt p Z s m meth c y bytes maxL ret) {x y z : Int32} (hd : decode bytes pc = .ok (.imul, 1)) (hz : x * y = z) (h : Go p e below P T (mkF m (pc + 1) Ls (.int z :: S))) : Go p e below P T (mkF m pc Ls (.int y :: .int x :: S)) := by
  subst hz; exact Go.by_ (fun t k => XS.imul X.here K.x rfl (K.d hd) rfl k) h
theorem G30 (X : Stand p l e R s m args below meth c T locs cells slots) (K : Kt p Z s m meth c y bytes maxL ret) {x y z : Int32} (hd : decode bytes pc = .ok (.iand, 1)) (hz : x &&& y = z) (h : Go p e below P T (mkF m (pc + 1) Ls (.int z :: S))) : Go p e below P T (mkF m pc Ls (.int y :: .int x :: S)) := by
  subst hz; exact Go.by_ (fun t k => XS.iand X.here K.x rfl (K.d hd) rfl k) h
theorem G58 (X : Stand p l e R s m args below meth c T locs cells slots) (K : Kt p Z s m meth c y bytes maxL ret) {x y z : Int32} (hd : decode bytes pc = .ok (.ixor, 1)) (hz : x ^^^ y = z) (h : Go p e below P T (mkF m (pc + 1) Ls (.int z :: S))) : Go p e below P T (mkF m pc Ls (.int y :: .int x :: S)) := by
  subst hz; exact Go.by_ (fun t k => XS.ixor X.here K.x rfl (K.d hd) rfl k) h
theorem G90 (X : Stand p l e R s m args below meth c T locs cells slots) (K : Kt p Z s m meth c y bytes maxL ret) {x y z : Int32} (hd : decode bytes pc = .ok (.ishr, 1)) (hz : x >>> (y &&& 31) = z) (h : Go p e below P T (mkF m (pc + 1) Ls (.int z :: S))) : Go p e below P T (mkF m pc Ls (.int y :: .int x :: S)) := by
  subst hz; exact Go.by_ (fun t k => XS.ishr X.here K.x rfl (K.d hd) rfl k) h
theorem G57 (X : Stand p l e R s m args below meth c T locs cells slots) (K : Kt p Z s m meth c y bytes maxL ret) {x y z : Int32} (hd : decode bytes pc = .ok (.iushr, 1)) (hz : (x.toUInt32 >>> (y &&& 31).toUInt32).toInt32 = z) (h : Go p e below P T (mkF m (pc + 1) Ls (.int z :: S))) : Go p e below P T (mkF m pc Ls (.int y :: .int x :: S)) := by
  subst hz; exact Go.by_ (fun t k => XS.iushr X.here K.x rfl (K.d hd) rfl k) h
theorem G63 (X : Stand p l e R s m args below meth c T locs cells slots) (K : Kt p Z s m meth c y bytes maxL ret) {x y z : Int32} (hd : decode bytes pc = .ok (.irem, 1)) (hy : y ≠ 0) (hz : x % y = z) (h : Go p e below P T (mkF m (pc + 1) Ls (.int z :: S))) : Go p e below P T (mkF m pc Ls (.int y :: .int x :: S)) := by
  subst hz; exact Go.by_ (fun t k => iremM X K.x rfl (K.d hd) rfl hy k) h
theorem G75 (X : Stand p l e R s m args below meth c T locs cells slots) (K : Kt p Z s m meth c y bytes maxL ret) {x y z : Int32} (hd : decode bytes pc = .ok (.idiv, 1)) (hy : y ≠ 0) (hz : x / y = z) (h : Go p e below P T (mkF m (pc + 1) Ls (.int z :: S))) : Go p e below P T (mkF m pc Ls (.int y :: .int x :: S)) := by
  subst hz; exact Go.by_ (fun t k => XS.idiv X.here K.x rfl (K.d hd) rfl hy k) h
theorem G53 (X : Stand p l e R s m args below meth c T locs cells slots) (K : Kt p Z s m meth c y bytes maxL ret) {x z : Int32} (hd : decode bytes pc = .ok (.i2b, 1)) (hz : x.toInt8.toInt32 = z) (h : Go p e below P T (mkF m (pc + 1) Ls (.int z :: S))) : Go p e below P T (mkF m pc Ls (.int x :: S)) := by
  subst hz; exact Go.by_ (fun t k => XS.i2b X.here K.x rfl (K.d hd) rfl k) h
theorem G66 (X : Stand p l e R s m args below meth c T locs cells slots) (K : Kt p Z s m meth c y bytes maxL ret) {x z : Int32} (hd : decode bytes pc = .ok (.i2c, 1)) (hz : x.toUInt32.toUInt16.toUInt32.toInt32 = z) (h : Go p e below P T (mkF m (pc + 1) Ls (.int z :: S))) : Go p e below P T (mkF m pc Ls (.int x :: S)) := by
  subst hz; exact Go.by_ (fun t k => XS.i2c X.here K.x rfl (K.d hd) rfl k) h
theorem G60 (X : Stand p l e R s m args below meth c T locs cells slots) (K : Kt p Z s m meth c y bytes maxL ret) {k : Fin 2} {v : Int64} (hd : decode bytes pc = .ok (.lconst k, 1)) (hv : Int64.ofInt k.val = v) (h : Go p e below P T (mkF m (pc + 1) Ls (.long v :: S))) : Go p e below P T (mkF m pc Ls S) := by
  subst hv; exact Go.by_ (fun t k => XS.lconst X.here K.x rfl (K.d hd) k) h
theorem G89 (X : Stand p l e R s m args below meth c T locs cells slots) (K : Kt p Z s m meth c y bytes maxL ret) {x y z : Int64} (hd : decode bytes pc = .ok (.lsub, 1)) (hz : x - y = z) (h : Go p e below P T (mkF m (pc + 1) Ls (.long z :: S))) : Go p e below P T (mkF m pc Ls (.long y :: .long x :: S)) := by
  subst hz; exact Go.by_ (fun t k => XS.lsub X.here K.x rfl (K.d hd) rfl k) h
theorem G70 (X : Stand p l e R s m args below meth c T locs cells slots) (K : Kt p Z s m meth c y bytes maxL ret) {x z : Int64} {y : Int32} (hd : decode bytes pc = .ok (.lshl, 1)) (hz : x <<< (y &&& 0x3f).toInt64 = z) (h : Go p e below P T (mkF m (pc + 1) Ls (.long z :: S))) : Go p e below P T (mkF m pc Ls (.int y :: .long x :: S)) := by
  subst hz; exact Go.by_ (fun t k => XS.lshl X.here K.x rfl (K.d hd) rfl k) h
theorem G81 (X : Stand p l e R s m args below meth c T locs cells slots) (K : Kt p Z s m meth c y bytes maxL ret) {x y : Int64} {z : Int32} (hd : decode bytes pc = .ok (.lcmp, 1)) (hz : lcmpW x y = z) (h : Go p e below P T (mkF m (pc + 1) Ls (.int z :: S))) : Go p e below P T (mkF m pc Ls (.long y :: .long x :: S)) := by
  subst hz; exact Go.by_ (fun t k => XS.lcmp X.here K.x rfl (K.d hd) rfl k) h
theorem G22 (X : Stand p l e R s m args below meth c T locs cells slots) (K : Kt p Z s m meth c y bytes maxL ret) {k : Nat} {cst : Int} {x z : Int32} {L' : Array Slot} (hd : decode bytes pc = .ok (.iinc k cst, 3)) (hl : Ls[k]? = some (.val (.int x))) (hz : x + Int32.ofInt cst = z) (hl' : storeLocals Ls k (.int z) = some L') (h : Go p e below P T (mkF m (pc + 3) L' S)) : Go p e below P T (mkF m pc Ls S) := by
  subst hz; exact Go.by_ (fun t k => XS.iinc X.here K.x rfl (K.d hd) hl hl' k) h
theorem G9 (X : Stand p l e R s m args below meth c T locs cells slots) (K : Kt p Z s m meth c y bytes maxL ret) {x : Value} (hd : decode bytes pc = .ok (.dup, 1)) (hc : x.category = 1) (h : Go p e below P T (mkF m (pc + 1) Ls (x :: x :: S))) : Go p e below P T (mkF m pc Ls (x :: S)) := by
  exact Go.by_ (fun t k => XS.dup X.here K.x rfl (K.d hd) rfl hc k) h
theorem G46 (X : Stand p l e R s m args below meth c T locs cells slots) (K : Kt p Z s m meth c y bytes maxL ret) {x y : Value} (hd : decode bytes pc = .ok (.dup_x1, 1)) (hc : x.category = 1) (hc' : y.category = 1) (h : Go p e below P T (mkF m (pc + 1) Ls (x :: y :: x :: S))) : Go p e below P T (mkF m pc Ls (x :: y :: S)) := by
  exact Go.by_ (fun t k => XS.dupX1 X.here K.x rfl (K.d hd) rfl hc hc' k) h
theorem G77 (X : Stand p l e R s m args below meth c T locs cells slots) (K : Kt p Z s m meth c y bytes maxL ret) {x y : Value} (hd : decode bytes pc = .ok (.dup2, 1)) (hc : x.category = 1) (hc' : y.category = 1) (h : Go p e below P T (mkF m (pc + 1) Ls (x :: y :: x :: y :: S))) : Go p e below P T (mkF m pc Ls (x :: y :: S)) := by
  exact Go.by_ (fun t k => XT.dup2 X.here K.x rfl (K.d hd) rfl hc hc' k) h
theorem G37 (X : Stand p l e R s m args below meth c T locs cells slots) (K : Kt p Z s m meth c y bytes maxL ret) {x : Value} (hd : decode bytes pc = .ok (.pop, 1)) (hc : x.category = 1) (h : Go p e below P T (mkF m (pc + 1) Ls S)) : Go p e below P T (mkF m pc Ls (x :: S)) := by
  exact Go.by_ (fun t k => XS.pop X.here K.x rfl (K.d hd) rfl hc k) h
theorem G6 (q : Nat) (X : Stand p l e R s m args below meth c T locs cells slots) (K : Kt p Z s m meth c y bytes maxL ret) {o : Int} (hd : decode bytes pc = .ok (.goto o, 3)) (ho : 0 ≤ (pc : Int) + o) (hq : ((pc : Int) + o).toNat = q) (h : Go p e below P T (mkF m q Ls S)) : Go p e below P T (mkF m pc Ls S) :=
  Go.by_ (fun t k => XS.goto X.here K.x rfl rfl (K.d hd) ho hq k) h
theorem G15 (q : Nat) (X : Stand p l e R s m args below meth c T locs cells slots) (K : Kt p Z s m meth c y bytes maxL ret) {cd : ClassFile.Cond} {x : Int32} {o : Int} (hd : decode bytes pc = .ok (.ifCond cd o, 3)) (hc : if_icmp.holds cd x 0 = true) (ho : 0 ≤ (pc : Int) + o) (hq : ((pc : Int) + o).toNat = q) (h : Go p e below P T (mkF m q Ls S)) : Go p e below P T (mkF m pc Ls (.int x :: S)) :=
  Go.by_ (fun t k => XS.ifYes X.here K.x rfl rfl (K.d hd) rfl ((if0 _ _).trans hc) ho hq k) h
theorem G11 (X : Stand p l e R s m args below meth c T locs cells slots) (K : Kt p Z s m meth c y bytes maxL ret) {cd : ClassFile.Cond} {x : Int32} {o : Int} (hd : decode bytes pc = .ok (.ifCond cd o, 3)) (hc : if_icmp.holds cd x 0 = false) (h : Go p e below P T (mkF m (pc + 3) Ls S)) : Go p e below P T (mkF m pc Ls (.int x :: S)) := by
  exact Go.by_ (fun t k => XS.ifNo X.here K.x rfl (K.d hd) rfl ((if0 _ _).trans hc) k) h
theorem G19 (q : Nat) (X : Stand p l e R s m args below meth c T locs cells slots) (K : Kt p Z s m meth c y bytes maxL ret) {cd : ClassFile.Cond} {x y : Int32} {o : Int} (hd : decode bytes pc = .ok (.if_icmp cd o, 3)) (hc : if_icmp.holds cd x y = true) (ho : 0 ≤ (pc : Int) + o) (hq : ((pc : Int) + o).toNat = q) (h : Go p e below P T (mkF m q Ls S)) : Go p e below P T (mkF m pc Ls (.int y :: .int x :: S)) :=
  Go.by_ (fun t k => XS.icmpYes X.here K.x rfl rfl (K.d hd) rfl hc ho hq k) h
theorem G10 (X : Stand p l e R s m args below meth c T locs cells slots) (K : Kt p Z s m meth c y bytes maxL ret) {cd : ClassFile.Cond} {x y : Int32} {o : Int} (hd : decode bytes pc = .ok (.if_icmp cd o, 3)) (hc : if_icmp.holds cd x y = false) (h : Go p e below P T (mkF m (pc + 3) Ls S)) : Go p e below P T (mkF m pc Ls (.int y :: .int x :: S)) := by
  exact Go.by_ (fun t k => XS.icmpNo X.here K.x rfl (K.d hd) rfl hc k) h
theorem G64 (q : Nat) (X : Stand p l e R s m args below meth c T locs cells slots) (K : Kt p Z s m meth c y bytes maxL ret) {cd : ACond} {x y : Value} {o : Int} {same : Bool} (hd : decode bytes pc = .ok (.if_acmp cd o, 3)) (h1 : x.isRef = true) (h2 : y.isRef = true) (hs : decide (x = y) = same) (ho : 0 ≤ (pc : Int) + o) (hq : q = if acV cd same = true then ((pc : Int) + o).toNat else pc + 3) (h : Go p e below P T (mkF m q Ls S)) : Go p e below P T (mkF m pc Ls (y :: x :: S)) :=
  Go.by_ (fun t k => acmp X K.x rfl h1 h2 rfl (K.d hd) rfl hs ho hq k) h
theorem G74 (q : Nat) (X : Stand p l e R s m args below meth c T locs cells slots) (K : Kt p Z s m meth c y bytes maxL ret) {o : Int} (hd : decode bytes pc = .ok (.ifnull o, 3)) (ho : 0 ≤ (pc : Int) + o) (hq : ((pc : Int) + o).toNat = q) (h : Go p e below P T (mkF m q Ls S)) : Go p e below P T (mkF m pc Ls (.null :: S)) :=
  Go.by_ (fun t k => XS.ifnullYes X.here K.x rfl rfl (K.d hd) rfl ho hq k) h
theorem G62 (X : Stand p l e R s m args below meth c T locs cells slots) (K : Kt p Z s m meth c y bytes maxL ret) {o : Int} {b : Addr} (hd : decode bytes pc = .ok (.ifnull o, 3)) (h : Go p e below P T (mkF m (pc + 3) Ls S)) : Go p e below P T (mkF m pc Ls (.ref b :: S)) := by
  exact Go.by_ (fun t k => XS.ifnullNo X.here K.x rfl (K.d hd) rfl k) h
theorem G51 (q : Nat) (X : Stand p l e R s m args below meth c T locs cells slots) (K : Kt p Z s m meth c y bytes maxL ret) {o : Int} {b : Addr} (hd : decode bytes pc = .ok (.ifnonnull o, 3)) (ho : 0 ≤ (pc : Int) + o) (hq : ((pc : Int) + o).toNat = q) (h : Go p e below P T (mkF m q Ls S)) : Go p e below P T (mkF m pc Ls (.ref b :: S)) :=
  Go.by_ (fun t k => XS.ifnonnullYes X.here K.x rfl rfl (K.d hd) rfl ho hq k) h
theorem G52 (X : Stand p l e R s m args below meth c T locs cells slots) (K : Kt p Z s m meth c y bytes maxL ret) {o : Int} (hd : decode bytes pc = .ok (.ifnonnull o, 3)) (h : Go p e below P T (mkF m (pc + 3) Ls S)) : Go p e below P T (mkF m pc Ls (.null :: S)) := by
  exact Go.by_ (fun t k => XS.ifnonnullNo X.here K.x rfl (K.d hd) rfl k) h
theorem G50 (X : Stand p l e R s m args below meth c T locs cells slots) (K : Kt p Z s m meth c y bytes maxL ret) {index : Nat} {v : Int32} (w : (Jvm.Cond.constant y.cls index v).before a0 Z = true) (hd : decode bytes pc = .ok (.ldc index, 2)) (h : Go p e below P T (mkF m (pc + 2) Ls (.int v :: S))) : Go p e below P T (mkF m pc Ls S) := by
  exact Go.by_ (fun t k => X.ldcInt K.x K.own (mvT K.z w) (g := mkF m pc Ls S) rfl (K.d hd) _ k) h
theorem G78 (X : Stand p l e R s m args below meth c T locs cells slots) (K : Kt p Z s m meth c y bytes maxL ret) {index : Nat} {v : Int64} (w : (Jvm.Cond.constantLong y.cls index v).before a0 Z = true) (hd : decode bytes pc = .ok (.ldc2_w index, 3)) (h : Go p e below P T (mkF m (pc + 3) Ls (.long v :: S))) : Go p e below P T (mkF m pc Ls S) := by
  exact Go.by_ (fun t k => X.ldc2Long K.x K.own (mvT K.z w) (g := mkF m pc Ls S) rfl (K.d hd) _ k) h
theorem G86 (q : Nat) (X : Stand p l e R s m args below meth c T locs cells slots) (K : Kt p Z s m meth c y bytes maxL ret) {dflt low high : Int} {offs : Array Int} {len : Nat} {o : Int} {i : Int32} (hd : decode bytes pc = .ok (.tableswitch dflt low high offs, len)) (hin : ¬ (i.toInt < low ∨ i.toInt > high)) (hoff : offs[(i.toInt - low).toNat]? = some o) (ho : 0 ≤ (pc : Int) + o) (hq : ((pc : Int) + o).toNat = q) (h : Go p e below P T (mkF m q Ls S)) : Go p e below P T (mkF m pc Ls (.int i :: S)) :=
  Go.by_ (fun t k => XS.tswIn X.here K.x rfl rfl (K.d hd) rfl hin hoff ho hq k) h
theorem G84 (q : Nat) (X : Stand p l e R s m args below meth c T locs cells slots) (K : Kt p Z s m meth c y bytes maxL ret) {dflt low high : Int} {offs : Array Int} {len : Nat} {i : Int32} (hd : decode bytes pc = .ok (.tableswitch dflt low high offs, len)) (hout : i.toInt < low ∨ i.toInt > high) (ho : 0 ≤ (pc : Int) + dflt) (hq : ((pc : Int) + dflt).toNat = q) (h : Go p e below P T (mkF m q Ls S)) : Go p e below P T (mkF m pc Ls (.int i :: S)) :=
  Go.by_ (fun t k => XS.tswOut X.here K.x rfl rfl (K.d hd) rfl hout ho hq k) h
end Plain
/-! steps that look at the heap -/
section Heap
theorem G33 {index : Nat} {C n d : String} {v : Value} (X : Stand p l e R s m args below meth c T locs cells slots) (K : Kt p Z s m meth c y bytes maxL ret) (w : (Jvm.Cond.fieldLink y.cls index C n d).before a0 Z = true) (eT : T.heap = h) (F : Sta Z h C n d v) (hd : decode bytes pc = .ok (.getstatic index, 3)) 
    (k : ∀ T', Stand p l e R s m args below meth c T' locs cells slots → T'.heap = h → Go p e below P T' (mkF m (pc + 3) Ls (v :: S))) : Go p e below P T (mkF m pc Ls S) := by
  obtain ⟨T1, X1, e1, st⟩ := getS2 X K.x K.z (host := "") K.own (Or.inl w) Via.refl eT F (g := mkF m pc Ls S) rfl (K.d hd)
  exact Go.by_ st (k T1 X1 e1)
theorem G2 {index : Nat} {C O n d : String} {a : Addr} {v : Value} (X : Stand p l e R s m args below meth c T locs cells slots) (K : Kt p Z s m meth c y bytes maxL ret) (w : (Jvm.Cond.fieldLink y.cls index C n d).before a0 Z = true) (via : Via Z C O n d) (eT : T.heap = h) (F : Fld Z h a O n d v) (hd : decode bytes pc = .ok (.getfield index, 3)) 
    (k : ∀ T', Stand p l e R s m args below meth c T' locs cells slots → T'.heap = h → Go p e below P T' (mkF m (pc + 3) Ls (v :: S))) : Go p e below P T (mkF m pc Ls (.ref a :: S)) := by
  obtain ⟨T1, X1, e1, st⟩ := getF X K.x K.z K.own (host := "") (Or.inl w) via eT F (g := mkF m pc Ls (.ref a :: S)) rfl rfl (K.d hd)
  exact Go.by_ st (k T1 X1 e1)
theorem G5 {index kk : Nat} {C O n d Cl : String} {a : Addr} {v old : Value} {ty : FieldType} (X : Stand p l e R s m args below meth c T locs cells slots) (K : Kt p Z s m meth c y bytes maxL ret) (w : (Jvm.Cond.fieldLink y.cls index C n d).before a0 Z = true) (via : Via Z C O n d) (eT : T.heap = h) (F : Fld Z h a O n d old) (E : Exa Z h a Cl) (L : (Jvm.Cond.lays Cl O n d).before a0 Z = true ∨ ((Jvm.Cond.laysFinal Cl O n d).before a0 Z = true ∧ y.cls = O ∧ y.name = "<init>")) (wi : (Jvm.Cond.instantiable Cl kk).before a0 Z = true)
    (hty : parseFieldDescriptor d = some ty) (hn : narrow ty v = v) (hf : fits ty v = true) (hd : decode bytes pc = .ok (.putfield index, 3)) 
    (k : ∀ T' h', Stand p l e R s m args below meth c T' (locs ++ [⟨a, Jvm.RoadKit.slotOf Z O n d⟩]) cells slots → T'.heap = h' → Wr h h' a (Jvm.RoadKit.slotOf Z O n d) v → Fld Z h' a O n d v → Go p e below P T' (mkF m (pc + 3) Ls S)) : Go p e below P T (mkF m pc Ls (v :: .ref a :: S)) := by
  obtain ⟨T1, h1, X1, e1, W1, st⟩ := putF X K.x K.z K.own (host := "") (Or.inl w) via eT F E (L.imp id fun q => ⟨q.1, q.2.1, K.nm.trans q.2.2⟩) wi hty hn hf (g := mkF m pc Ls (v :: .ref a :: S)) rfl rfl (K.d hd)
  exact Go.by_ st (k T1 h1 X1 e1 W1 (F.same W1))
theorem G27 {index n : Nat} {C : String} (X : Stand p l e R s m args below meth c T locs cells slots) (K : Kt p Z s m meth c y bytes maxL ret) (w : (Jvm.Cond.classLink y.cls index C).before a0 Z = true) (wi : (Jvm.Cond.instantiable C n).before a0 Z = true) (wz : (Jvm.Cond.initialized C).before a0 Z = true) (eT : T.heap = h) (hd : decode bytes pc = .ok (.new index, 3)) (hc : cells + 1 ≤ R.cells) (hl : slots + n ≤ R.slots) 
    (k : ∀ (T' : State) (h' : Heap) (a : Addr), Stand p l e R s m args below meth c T' locs (cells + 1) (slots + n) → T'.heap = h' → Ext h h' → h.size = a → Exa Z h' a C → (∀ {O nm d : String} {ty : FieldType}, Laid Z a0 C O nm d → parseFieldDescriptor d = some ty → Fld Z h' a O nm d (defaultValue ty)) → Go p e below P T' (mkF m (pc + 3) Ls (.ref a :: S))) : Go p e below P T (mkF m pc Ls S) := by
  obtain ⟨T1, h1, X1, e1, E1, A1, D1, -, st⟩ := newO X K.x K.z K.own w wi wz eT (g := mkF m pc Ls S) rfl (K.d hd) hc hl
  exact Go.by_ st (k T1 h1 _ X1 e1 E1 rfl A1 D1)
theorem G40 {index : Nat} {a : Addr} {W : Nat} (X : Stand p l e R s m args below meth c T locs cells slots) (K : Kt p Z s m meth c y bytes maxL ret) (w1 : (Jvm.Cond.methodLink y.cls index Lib.objectInit).before a0 Z = true) (w2 : (Jvm.Cond.instanceMethod Lib.objectInit).before a0 Z = true) (w3 : (Jvm.Cond.code Lib.objectInit ⟨#[0xb1]⟩ 1 none).before a0 Z = true) (eT : T.heap = h) (hsz : Ls.size = maxL) (hd : decode bytes pc = .ok (.invokespecial index, 3)) (hf : 1 ≤ R.frames) (hW : (S.map fun v => v.category).sum ≤ W) (hl : W + 12 ≤ R.locals) 
    (k : ∀ T', Stand p l e R s m args below meth c T' locs cells slots → T'.heap = h → Go p e below P T' (mkF m (pc + 3) Ls S)) : Go p e below P T (mkF m pc Ls (.ref a :: S)) := by
  obtain ⟨T1, X1, e1, st⟩ := initO X K.x K.z K.own w1 w2 w3 eT (g := mkF m pc Ls (.ref a :: S)) rfl (by rw [K.ml]; exact hsz) rfl (K.d hd) hf (W := W) (by show 2 * 0 + _ ≤ _; omega) hl
  exact Go.by_ st (k T1 X1 e1)
theorem G47 {index : Nat} {C : String} {a : Addr} (X : Stand p l e R s m args below meth c T locs cells slots) (K : Kt p Z s m meth c y bytes maxL ret) (w : (Jvm.Cond.classLink y.cls index C).before a0 Z = true) (eT : T.heap = h) (F : Ins Z h a C true) (hd : decode bytes pc = .ok (.checkcast index, 3)) 
    (k : ∀ T', Stand p l e R s m args below meth c T' locs cells slots → T'.heap = h → Go p e below P T' (mkF m (pc + 3) Ls (.ref a :: S))) : Go p e below P T (mkF m pc Ls (.ref a :: S)) := by
  obtain ⟨T1, X1, e1, st⟩ := castY X K.x K.z K.own w eT F (g := mkF m pc Ls (.ref a :: S)) rfl rfl (K.d hd)
  exact Go.by_ st (k T1 X1 e1)
/-! arrays -/
theorem G21 {a : Addr} {kA : ClassId} {ty : FieldType} {n : Int32} {vs : List Value} {dv : Value} (X : Stand p l e R s m args below meth c T locs cells slots) (K : Kt p Z s m meth c y bytes maxL ret) (eT : T.heap = h) (A : Arv Z h a kA ty n vs dv) (hd : decode bytes pc = .ok (.arraylength, 1)) (k : Go p e below P T (mkF m (pc + 1) Ls (.int n :: S))) : Go p e below P T (mkF m pc Ls (.ref a :: S)) := by
  obtain ⟨cl, Ar, -, Sz, Nn, -, -⟩ := A
  refine Go.by_ (fun t k => X.arraylength K.x (by rw [eT]; exact Ar.1) (State.isArrayOf_alike K.z.alike Ar.2.1) (g := mkF m pc Ls (.ref a :: S)) rfl rfl (K.d hd) _ k) ?_
  rw [len_of Sz Nn]; exact k
theorem arv_at {a : Addr} {kA : ClassId} {ty : FieldType} {n j : Int32} {vs : List Value} {dv v : Value} (A : Arv Z h a kA ty n vs dv) (hj : ¬ j < 0 ∧ j < n) (hv : vs.getD j.toNatClampNeg dv = v) :
    ∃ cl, Arr Z h a cl ty ∧ ¬ (j < 0 ∨ cl.slots.size ≤ j.toNatClampNeg) ∧ cl.slots[j.toNatClampNeg]? = some v := by
  obtain ⟨cl, Ar, -, Sz, Nn, H, -⟩ := A
  have hin := inb_of Sz hj
  exact ⟨cl, Ar, hin, H.at hin hv⟩
theorem G67 {a : Addr} {kA : ClassId} {n j : Int32} {vs : List Value} {dv v : Value} (X : Stand p l e R s m args below meth c T locs cells slots) (K : Kt p Z s m meth c y bytes maxL ret) (eT : T.heap = h) (A : Arv Z h a kA .int n vs dv) (hj : ¬ j < 0 ∧ j < n) (hv : vs.getD j.toNatClampNeg dv = v) (hd : decode bytes pc = .ok (.iaload, 1)) (k : Go p e below P T (mkF m (pc + 1) Ls (v :: S))) : Go p e below P T (mkF m pc Ls (.int j :: .ref a :: S)) := by
  obtain ⟨cl, Ar, hin, hat⟩ := arv_at A hj hv
  exact Go.by_ (fun t k => X.iaload K.x (by rw [eT]; exact Ar.1) (State.isArrayOf_alike K.z.alike Ar.2.1) Ar.2.2 hin hat (g := mkF m pc Ls (.int j :: .ref a :: S)) rfl rfl (K.d hd) _ k) k
theorem G42 {a : Addr} {kA : ClassId} {n j : Int32} {vs : List Value} {dv v : Value} (X : Stand p l e R s m args below meth c T locs cells slots) (K : Kt p Z s m meth c y bytes maxL ret) (eT : T.heap = h) (A : Arv Z h a kA .byte n vs dv) (hj : ¬ j < 0 ∧ j < n) (hv : vs.getD j.toNatClampNeg dv = v) (hd : decode bytes pc = .ok (.baload, 1)) (k : Go p e below P T (mkF m (pc + 1) Ls (v :: S))) : Go p e below P T (mkF m pc Ls (.int j :: .ref a :: S)) := by
  obtain ⟨cl, Ar, hin, hat⟩ := arv_at A hj hv
  exact Go.by_ (fun t k => X.baloadBytes K.x (by rw [eT]; exact Ar.1) (State.isArrayOf_alike K.z.alike Ar.2.1) Ar.2.2 hin hat (g := mkF m pc Ls (.int j :: .ref a :: S)) rfl rfl (K.d hd) _ k) k
theorem G36 {a : Addr} {kA : ClassId} {ty : FieldType} {n j : Int32} {vs : List Value} {dv v : Value} (X : Stand p l e R s m args below meth c T locs cells slots) (K : Kt p Z s m meth c y bytes maxL ret) (eT : T.heap = h) (A : Arv Z h a kA ty n vs dv) (hty : ty.isReference = true) (hj : ¬ j < 0 ∧ j < n) (hv : vs.getD j.toNatClampNeg dv = v) (hd : decode bytes pc = .ok (.aaload, 1)) (k : Go p e below P T (mkF m (pc + 1) Ls (v :: S))) : Go p e below P T (mkF m pc Ls (.int j :: .ref a :: S)) := by
  obtain ⟨cl, Ar, hin, hat⟩ := arv_at A hj hv
  exact Go.by_ (fun t k => X.aaload K.x (by rw [eT]; exact Ar.1) (State.isArrayOf_alike K.z.alike Ar.2.1) hty Ar.2.2 hin hat (g := mkF m pc Ls (.int j :: .ref a :: S)) rfl rfl (K.d hd) _ k) k
theorem G35 {aty : ArrayType} {n : Int32} {cap : Nat} {ty : FieldType} {vs : List Value} (X : Stand p l e R s m args below meth c T locs cells slots) (K : Kt p Z s m meth c y bytes maxL ret) (w : (Jvm.Cond.arrayClass ty).before a0 Z = true) (hty : newarray.typeOf aty = ty) (eT : T.heap = h) (hd : decode bytes pc = .ok (.newarray aty, 2)) (hn : ¬ n < 0) (hcap : n.toNatClampNeg ≤ cap) (hvs : List.replicate cap (defaultValue ty) = vs) (hb : cap * 8 ≤ 536870912) (hc : cells + 1 ≤ R.cells) (hl : slots + cap ≤ R.slots) 
    (k : ∀ (T' : State) (h' : Heap) (a : Addr) (kA : ClassId), Stand p l e R s m args below meth c T' locs (cells + 1) (slots + cap) → T'.heap = h' → Ext h h' → h.size = a → Arv Z h' a kA ty n vs (defaultValue ty) → Go p e below P T' (mkF m (pc + 2) Ls (.ref a :: S))) : Go p e below P T (mkF m pc Ls (.int n :: S)) := by
  subst hty hvs
  obtain ⟨T1, h1, kA, X1, e1, E1, A1, st⟩ := newP X K.x K.z w eT (g := mkF m pc Ls (.int n :: S)) rfl (K.d hd) rfl hn hcap hb hc hl
  exact Go.by_ st (k T1 h1 _ kA X1 e1 E1 rfl ((Arv.new A1 hn).pad (pad_rep [] _ cap)))
theorem arv_set {a : Addr} {kA : ClassId} {ty : FieldType} {n j : Int32} {vs vs' : List Value} {dv v : Value} {h' : Heap} (A : Arv Z h a kA ty n vs dv) (hv : fits ty v = true) (W : Wr h h' a j.toNatClampNeg v) (hl : j.toNatClampNeg < vs.length) (hs : vs.set j.toNatClampNeg v = vs') : Arv Z h' a kA ty n vs' dv := by
  subst hs
  obtain ⟨cl, Ar, q1, Sz, Nn, H, G⟩ := A
  exact Arv.set Ar q1 Sz Nn H G hv W _ rfl hl
theorem G39 {a : Addr} {kA : ClassId} {n j x : Int32} {vs vs' : List Value} {dv : Value} (X : Stand p l e R s m args below meth c T locs cells slots) (K : Kt p Z s m meth c y bytes maxL ret) (eT : T.heap = h) (A : Arv Z h a kA .int n vs dv) (hj : ¬ j < 0 ∧ j < n) (hl : j.toNatClampNeg < vs.length) (hs : vs.set j.toNatClampNeg (.int x) = vs') (hd : decode bytes pc = .ok (.iastore, 1)) 
    (k : ∀ T' h', Stand p l e R s m args below meth c T' (locs ++ [⟨a, j.toNatClampNeg⟩]) cells slots → T'.heap = h' → Wr h h' a j.toNatClampNeg (.int x) → Arv Z h' a kA .int n vs' dv → Go p e below P T' (mkF m (pc + 1) Ls S)) : Go p e below P T (mkF m pc Ls (.int x :: .int j :: .ref a :: S)) := by
  obtain ⟨cl, Ar, hin, -⟩ := arv_at A hj rfl
  obtain ⟨T1, h1, X1, e1, W1, st⟩ := stI X K.x K.z eT Ar hin (g := mkF m pc Ls (.int x :: .int j :: .ref a :: S)) rfl rfl (K.d hd)
  exact Go.by_ st (k T1 h1 X1 e1 W1 (arv_set A rfl W1 hl hs))
theorem G41 {a : Addr} {kA : ClassId} {n j : Int32} {x : Int64} {vs vs' : List Value} {dv : Value} (X : Stand p l e R s m args below meth c T locs cells slots) (K : Kt p Z s m meth c y bytes maxL ret) (eT : T.heap = h) (A : Arv Z h a kA .long n vs dv) (hj : ¬ j < 0 ∧ j < n) (hl : j.toNatClampNeg < vs.length) (hs : vs.set j.toNatClampNeg (.long x) = vs') (hd : decode bytes pc = .ok (.lastore, 1)) 
    (k : ∀ T' h', Stand p l e R s m args below meth c T' (locs ++ [⟨a, j.toNatClampNeg⟩]) cells slots → T'.heap = h' → Wr h h' a j.toNatClampNeg (.long x) → Arv Z h' a kA .long n vs' dv → Go p e below P T' (mkF m (pc + 1) Ls S)) : Go p e below P T (mkF m pc Ls (.long x :: .int j :: .ref a :: S)) := by
  obtain ⟨cl, Ar, hin, -⟩ := arv_at A hj rfl
  obtain ⟨T1, h1, X1, e1, W1, st⟩ := stJ X K.x K.z eT Ar hin (g := mkF m pc Ls (.long x :: .int j :: .ref a :: S)) rfl rfl (K.d hd)
  exact Go.by_ st (k T1 h1 X1 e1 W1 (arv_set A rfl W1 hl hs))
theorem G49 {a : Addr} {kA : ClassId} {n j x z : Int32} {vs vs' : List Value} {dv : Value} (X : Stand p l e R s m args below meth c T locs cells slots) (K : Kt p Z s m meth c y bytes maxL ret) (eT : T.heap = h) (A : Arv Z h a kA .byte n vs dv) (hj : ¬ j < 0 ∧ j < n) (hl : j.toNatClampNeg < vs.length) (hz : nar .byte x = z) (hs : vs.set j.toNatClampNeg (.int z) = vs') (hd : decode bytes pc = .ok (.bastore, 1)) 
    (k : ∀ T' h', Stand p l e R s m args below meth c T' (locs ++ [⟨a, j.toNatClampNeg⟩]) cells slots → T'.heap = h' → Wr h h' a j.toNatClampNeg (.int z) → Arv Z h' a kA .byte n vs' dv → Go p e below P T' (mkF m (pc + 1) Ls S)) : Go p e below P T (mkF m pc Ls (.int x :: .int j :: .ref a :: S)) := by
  subst hz
  obtain ⟨cl, Ar, hin, -⟩ := arv_at A hj rfl
  obtain ⟨T1, h1, X1, e1, W1, st⟩ := stB X K.x K.z eT Ar hin (g := mkF m pc Ls (.int x :: .int j :: .ref a :: S)) rfl rfl (K.d hd)
  exact Go.by_ st (k T1 h1 X1 e1 W1 (arv_set A (fits_nar_byte _) W1 hl hs))
theorem G32 {a : Addr} {kA : ClassId} {C : String} {n j : Int32} {v : Value} {vs vs' : List Value} {dv : Value} (X : Stand p l e R s m args below meth c T locs cells slots) (K : Kt p Z s m meth c y bytes maxL ret) (eT : T.heap = h) (A : Arv Z h a kA (.object C) n vs dv) (hv : v = .null ∨ ∃ b, v = .ref b ∧ Ovr Z kA C ∧ Ins Z h b C true) (hj : ¬ j < 0 ∧ j < n) (hl : j.toNatClampNeg < vs.length) (hs : vs.set j.toNatClampNeg v = vs') (hd : decode bytes pc = .ok (.aastore, 1)) 
    (k : ∀ T' h', Stand p l e R s m args below meth c T' (locs ++ [⟨a, j.toNatClampNeg⟩]) cells slots → T'.heap = h' → Wr h h' a j.toNatClampNeg v → Arv Z h' a kA (.object C) n vs' dv → Go p e below P T' (mkF m (pc + 1) Ls S)) : Go p e below P T (mkF m pc Ls (v :: .int j :: .ref a :: S)) := by
  have hfit : fits (.object C) v = true := by rcases hv with rfl | ⟨b, rfl, -⟩ <;> rfl
  obtain ⟨cl, Ar, q1, Sz, -⟩ := id A
  have hin := inb_of Sz hj
  have F : Sto Z h a v := by
    rcases hv with rfl | ⟨b, rfl, O, I⟩
    · exact Or.inl rfl
    · exact Sto.ofV Ar q1 O I
  obtain ⟨T1, h1, X1, e1, W1, st⟩ := stR X K.x K.z eT Ar hin rfl F (g := mkF m pc Ls (v :: .int j :: .ref a :: S)) rfl rfl (K.d hd)
  exact Go.by_ st (k T1 h1 X1 e1 W1 (arv_set A hfit W1 hl hs))
/-! calls -/
variable {y' : MethodName} {bytes' : ByteArray} {maxL' : Nat} {ret' : Option FieldType} {rm : Room} {as' : Array Value} {Q' : Option Value → Heap → List Loc → Prop} {index : Nat} {argsL rest : List Value} {W : Nat}
theorem G14 (X : Stand p l e R s m args below meth c T locs cells slots) (K : Kt p Z s m meth c y bytes maxL ret) (w1 : (Jvm.Cond.methodLink y.cls index y').before a0 Z = true) (w2 : (Jvm.Cond.static y').before a0 Z = true) (w3 : (Jvm.Cond.initialized y'.cls).before a0 Z = true) (w4 : (Jvm.Cond.code y' bytes' maxL' ret').before a0 Z = true) (hy : y'.cls ≠ "java/lang/invoke/MethodHandle" ∧ y'.cls ≠ "java/lang/invoke/VarHandle")
    (hM : Mt l Z y' bytes' maxL' ret' [] rm as' h Q') (eT : T.heap = h) (hsz : Ls.size = maxL) (has : argsL.toArray = as') (hst : S = argsL.reverse ++ rest) (hlen : ∀ sig, parseMethodDescriptor y'.desc = some sig → argsL.length = sig.parameters.length) (hW : (rest.map fun v => v.category).sum = W) (hd : decode bytes pc = .ok (.invokestatic index, 3))
    (hr : rm.frames + 1 ≤ R.frames ∧ W + (maxL' + 11) + rm.locals ≤ R.locals ∧ cells + rm.cells ≤ R.cells ∧ slots + rm.slots ≤ R.slots) 
    (k : ∀ T' v L, Stand p l e R s m args below meth c T' (locs ++ L) (cells + rm.cells) (slots + rm.slots) → Q' v T'.heap L → Go p e below P T' (mkF m (pc + 3) Ls (v.toList ++ rest))) : Go p e below P T (mkF m pc Ls S) := by
  subst has hst
  obtain ⟨v, _, ⟨T1, L1, k1, n1⟩, -, X1, ⟨Lc, hQ, l1, y1, z1⟩, st⟩ := Jvm.LawKit.callS X K.x (y := y') K.own (mvT K.z w1) (mvT K.z w2) (mvT K.z w3) (mvT K.z w4) hy (backOf (W := W) hM K.z w4 w3 hr.1 hr.2.1) (g := mkF m pc Ls (argsL.reverse ++ rest)) rfl (by rw [K.ml]; exact hsz) (argsL := argsL) (rest := rest) hlen rfl (by show 2 * 0 + _ ≤ _; omega) (K.d hd) (fun _ _ => ⟨rfl, eT, hr.2.2.1, hr.2.2.2⟩)
  dsimp only [Pt.U, Pt.locs, Pt.cells, Pt.slots] at X1 l1 y1 z1 st hQ
  subst l1 y1 z1
  exact Go.by_ st (k T1 v Lc X1 hQ)
theorem G23 {a : Addr} (X : Stand p l e R s m args below meth c T locs cells slots) (K : Kt p Z s m meth c y bytes maxL ret) (hy1 : y'.name = "<init>") (w1 : (Jvm.Cond.methodLink y.cls index y').before a0 Z = true) (w2 : (Jvm.Cond.instanceMethod y').before a0 Z = true) (w3 : (Jvm.Cond.initialized y'.cls).before a0 Z = true) (w4 : (Jvm.Cond.code y' bytes' maxL' none).before a0 Z = true) (hy : y'.cls ≠ "java/lang/invoke/MethodHandle" ∧ y'.cls ≠ "java/lang/invoke/VarHandle")
    (hM : Mt l Z y' bytes' maxL' none [] rm as' h Q') (eT : T.heap = h) (hsz : Ls.size = maxL) (has : (Value.ref a :: argsL).toArray = as') (hst : S = argsL.reverse ++ .ref a :: rest) (hlen : ∀ sig, parseMethodDescriptor y'.desc = some sig → argsL.length = sig.parameters.length) (hW : (rest.map fun v => v.category).sum = W) (hd : decode bytes pc = .ok (.invokespecial index, 3))
    (hr : rm.frames + 1 ≤ R.frames ∧ W + (maxL' + 11) + rm.locals ≤ R.locals ∧ cells + rm.cells ≤ R.cells ∧ slots + rm.slots ≤ R.slots) 
    (k : ∀ T' v L, Stand p l e R s m args below meth c T' (locs ++ L) (cells + rm.cells) (slots + rm.slots) → Q' v T'.heap L → Go p e below P T' (mkF m (pc + 3) Ls (v.toList ++ rest))) : Go p e below P T (mkF m pc Ls S) := by
  subst has hst
  obtain ⟨v, _, ⟨T1, L1, k1, n1⟩, -, X1, ⟨Lc, hQ, l1, y1, z1⟩, st⟩ := X.specialBack K.x (y := y') hy1 K.own (mvT K.z w1) (mvT K.z w2) (mvT K.z w4) hy (backOf (W := W) hM K.z w4 w3 hr.1 hr.2.1) (g := mkF m pc Ls (argsL.reverse ++ .ref a :: rest)) rfl (by rw [K.ml]; exact hsz) (Steps.refl _) (a := a) (argsL := argsL) (rest := rest) hlen rfl (by show 2 * 0 + _ ≤ _; omega) (K.d hd) (fun _ _ => ⟨rfl, eT, hr.2.2.1, hr.2.2.2⟩)
  dsimp only [Pt.U, Pt.locs, Pt.cells, Pt.slots] at X1 l1 y1 z1 st hQ
  subst l1 y1 z1
  exact Go.tr st (k T1 v Lc X1 hQ)
theorem G8 {a : Addr} {C : String} {z' : MethodName} (X : Stand p l e R s m args below meth c T locs cells slots) (K : Kt p Z s m meth c y bytes maxL ret) (w1 : (Jvm.Cond.methodLink y.cls index y').before a0 Z = true) (w2 : (Jvm.Cond.declares y').before a0 Z = true) (nf : NotFace s y') (w5 : (Jvm.Cond.selects C y' z').before a0 Z = true) (w6 : (Jvm.Cond.instanceMethod z').before a0 Z = true) (w3 : (Jvm.Cond.initialized z'.cls).before a0 Z = true) (w4 : (Jvm.Cond.code z' bytes' maxL' ret').before a0 Z = true) (hy : y'.cls ≠ "java/lang/invoke/MethodHandle" ∧ y'.cls ≠ "java/lang/invoke/VarHandle")
    (hM : Mt l Z z' bytes' maxL' ret' [] rm as' h Q') (eT : T.heap = h) (E : Exa Z h a C) (hsz : Ls.size = maxL) (has : (Value.ref a :: argsL).toArray = as') (hst : S = argsL.reverse ++ .ref a :: rest) (hlen : ∀ sig, parseMethodDescriptor y'.desc = some sig → argsL.length = sig.parameters.length) (hW : (rest.map fun v => v.category).sum = W) (hd : decode bytes pc = .ok (.invokevirtual index, 3))
    (hr : rm.frames + 1 ≤ R.frames ∧ W + (maxL' + 11) + rm.locals ≤ R.locals ∧ cells + rm.cells ≤ R.cells ∧ slots + rm.slots ≤ R.slots) 
    (k : ∀ T' v L, Stand p l e R s m args below meth c T' (locs ++ L) (cells + rm.cells) (slots + rm.slots) → Q' v T'.heap L → Go p e below P T' (mkF m (pc + 3) Ls (v.toList ++ rest))) : Go p e below P T (mkF m pc Ls S) := by
  subst has hst
  obtain ⟨cq, kq, qa, qb, qc⟩ := isOf K.z eT E
  obtain ⟨v, _, ⟨T1, L1, k1, n1⟩, -, X1, ⟨Lc, hQ, l1, y1, z1⟩, st⟩ := X.virtualBack K.x (y := y') (z := z') K.own (mvT K.z w1) (mvT K.z w2) nf (mvT K.z w5) (mvT K.z w6) hy (backOf (W := W) hM K.z w4 w3 hr.1 hr.2.1) qa qc (g := mkF m pc Ls (argsL.reverse ++ .ref a :: rest)) rfl (by rw [K.ml]; exact hsz) (Steps.refl _) (argsL := argsL) (rest := rest) hlen rfl (by show 2 * 0 + _ ≤ _; omega) (K.d hd) (fun _ _ => ⟨rfl, eT, hr.2.2.1, hr.2.2.2⟩)
  dsimp only [Pt.U, Pt.locs, Pt.cells, Pt.slots] at X1 l1 y1 z1 st hQ
  subst l1 y1 z1
  exact Go.tr st (k T1 v Lc X1 hQ)
theorem G87 {a : Addr} {C owner : String} {z' : MethodName} (X : Stand p l e R s m args below meth c T locs cells slots) (K : Kt p Z s m meth c y bytes maxL ret) (w1 : (Jvm.Cond.methodLink y.cls index y').before a0 Z = true) (w0 : (Jvm.Cond.sameMethod y'.cls owner y'.name y'.desc).before a0 Z = true) (w2 : (Jvm.Cond.declares ⟨owner, y'.name, y'.desc⟩).before a0 Z = true) (hy : owner ≠ "java/lang/invoke/MethodHandle" ∧ owner ≠ "java/lang/invoke/VarHandle") (w5 : (Jvm.Cond.selects C y' z').before a0 Z = true) (w6 : (Jvm.Cond.instanceMethod z').before a0 Z = true) (w3 : (Jvm.Cond.initialized z'.cls).before a0 Z = true) (w4 : (Jvm.Cond.code z' bytes' maxL' ret').before a0 Z = true)
    (hM : Mt l Z z' bytes' maxL' ret' [] rm as' h Q') (eT : T.heap = h) (E : Exa Z h a C) (hsz : Ls.size = maxL) (has : (Value.ref a :: argsL).toArray = as') (hst : S = argsL.reverse ++ .ref a :: rest) (hlen : ∀ sig, parseMethodDescriptor y'.desc = some sig → argsL.length = sig.parameters.length) (hW : (rest.map fun v => v.category).sum = W) (hd : decode bytes pc = .ok (.invokevirtual index, 3))
    (hr : rm.frames + 1 ≤ R.frames ∧ W + (maxL' + 11) + rm.locals ≤ R.locals ∧ cells + rm.cells ≤ R.cells ∧ slots + rm.slots ≤ R.slots) 
    (k : ∀ T' v L, Stand p l e R s m args below meth c T' (locs ++ L) (cells + rm.cells) (slots + rm.slots) → Q' v T'.heap L → Go p e below P T' (mkF m (pc + 3) Ls (v.toList ++ rest))) : Go p e below P T (mkF m pc Ls S) := by
  subst has hst
  obtain ⟨cq, kq, qa, qb, qc⟩ := isOf K.z eT E
  obtain ⟨v, _, ⟨T1, L1, k1, n1⟩, -, X1, ⟨Lc, hQ, l1, y1, z1⟩, st⟩ := X.virtualBackUp K.x (x := y') (y := z') K.own (mvT K.z w1) (mvT K.z w0) (mvT K.z w2) hy (mvT K.z w5) (mvT K.z w6) (backOf (W := W) hM K.z w4 w3 hr.1 hr.2.1) qa qc (g := mkF m pc Ls (argsL.reverse ++ .ref a :: rest)) rfl (by rw [K.ml]; exact hsz) (Steps.refl _) (argsL := argsL) (rest := rest) hlen rfl (by show 2 * 0 + _ ≤ _; omega) (K.d hd) (fun _ _ => ⟨rfl, eT, hr.2.2.1, hr.2.2.2⟩)
  dsimp only [Pt.U, Pt.locs, Pt.cells, Pt.slots] at X1 l1 y1 z1 st hQ
  subst l1 y1 z1
  exact Go.tr st (k T1 v Lc X1 hQ)
theorem G20 {a : Addr} {C : String} {z' : MethodName} {cnt : Nat} (X : Stand p l e R s m args below meth c T locs cells slots) (K : Kt p Z s m meth c y bytes maxL ret) (w1 : (Jvm.Cond.methodLink y.cls index y').before a0 Z = true) (w2 : (Jvm.Cond.declares y').before a0 Z = true) (wf : (Jvm.Cond.interfaceMethod y'.cls y'.cls y'.name y'.desc).before args s = true) (w5 : (Jvm.Cond.selects C y' z').before a0 Z = true) (w6 : (Jvm.Cond.instanceMethod z').before a0 Z = true) (wp : (Jvm.Cond.publicMethod z').before a0 Z = true) (wu : (Jvm.Cond.unhidden C y'.name y'.desc).before a0 Z = true) (wca : (Jvm.Cond.castable C y'.cls).before a0 Z = true) (w3 : (Jvm.Cond.initialized z'.cls).before a0 Z = true) (w4 : (Jvm.Cond.code z' bytes' maxL' ret').before a0 Z = true) (hy : y'.cls ≠ "java/lang/invoke/MethodHandle" ∧ y'.cls ≠ "java/lang/invoke/VarHandle")
    (hM : Mt l Z z' bytes' maxL' ret' [] rm as' h Q') (eT : T.heap = h) (E : Exa Z h a C) (hsz : Ls.size = maxL) (has : (Value.ref a :: argsL).toArray = as') (hst : S = argsL.reverse ++ .ref a :: rest) (hlen : ∀ sig, parseMethodDescriptor y'.desc = some sig → argsL.length = sig.parameters.length) (hW : (rest.map fun v => v.category).sum = W) (hd : decode bytes pc = .ok (.invokeinterface index cnt, 5))
    (hr : rm.frames + 1 ≤ R.frames ∧ W + (maxL' + 11) + rm.locals ≤ R.locals ∧ cells + rm.cells ≤ R.cells ∧ slots + rm.slots ≤ R.slots) 
    (k : ∀ T' v L, Stand p l e R s m args below meth c T' (locs ++ L) (cells + rm.cells) (slots + rm.slots) → Q' v T'.heap L → Go p e below P T' (mkF m (pc + 5) Ls (v.toList ++ rest))) : Go p e below P T (mkF m pc Ls S) := by
  subst has hst
  obtain ⟨cq, kq, qa, qb, qc⟩ := isOf K.z eT E
  obtain ⟨v, _, ⟨T1, L1, k1, n1⟩, -, X1, ⟨Lc, hQ, l1, y1, z1⟩, st⟩ := X.interfaceBack K.x (xi := y') (y := z') K.own (mvT K.z w1) (mvT K.z w2) wf (mvT K.z w5) (mvT K.z w6) (mvT K.z wp) (mvT K.z wu) (mvT K.z wca) hy (backOf (W := W) hM K.z w4 w3 hr.1 hr.2.1) qa qb qc (g := mkF m pc Ls (argsL.reverse ++ .ref a :: rest)) rfl (by rw [K.ml]; exact hsz) (Steps.refl _) (argsL := argsL) (rest := rest) hlen rfl (by show 2 * 0 + _ ≤ _; omega) (K.d hd) (fun _ _ => ⟨rfl, eT, hr.2.2.1, hr.2.2.2⟩)
  dsimp only [Pt.U, Pt.locs, Pt.cells, Pt.slots] at X1 l1 y1 z1 st hQ
  subst l1 y1 z1
  exact Go.tr st (k T1 v Lc X1 hQ)
theorem nf_self {C : String} (K : Kt p Z s m meth c y bytes maxL ret) (w : (Jvm.Cond.selects C y' y').before a0 Z = true) : NotFace s y' := notFace_of_selects (args := #[]) (mvT K.z w)
end Heap
end Own
section Start
variable {Z : State} {a0 : Array Value} {t u : Jvm.Term} {n : Int32} {a : Addr} {ty : FieldType} {vs : List Value} {dv v : Value}
def adOf (C n d : String) (Z : State) (a0 : Array Value) : Addr := match (Jvm.Term.static C n d).eval a0 Z none [] Z with | some (.ref a) => a | _ => 0
theorem own_ad {C n d : String} (h : ∃ x, (Jvm.Term.static C n d).eval a0 Z none [] Z = some (.ref x)) : (Jvm.Term.static C n d).eval a0 Z none [] Z = some (.ref (adOf C n d Z a0)) := by
  obtain ⟨x, hx⟩ := h; simp only [adOf, hx]
theorem own_eqint (h : (Jvm.Cond.eq t (.int n)).value a0 Z none Z [] = some true) : t.eval a0 Z none [] Z = some (.int n) := by
  obtain ⟨x, y, h1, h2, h3, -⟩ := cmp_v (Or.inl h)
  cases h2
  cases x <;> first | (simp [Kin, Value.isRef] at h3; done) | skip
  rw [h1]
  have q := gotT (Cond.eq_ints h1 rfl) h
  rw [q]
def kaOf (Z : State) (a : Addr) : ClassId := match Z.heap[a]? with | some c => c.cls | none => 0
theorem own_len (h : (Jvm.Term.length t).eval a0 Z none [] Z = some (.int n)) (ht : t.eval a0 Z none [] Z = some (.ref a)) : ∃ cl : Cell, Z.heap[a]? = some cl ∧ cl.slots.size < 2 ^ 31 ∧ cl.slots.size.toInt32 = n := by
  obtain ⟨a', cl, h1, h2, h3⟩ := Term.length_spec h
  cases ht.symm.trans h1
  refine ⟨cl, (State.arrayAt?_spec h2).1, ?_, by cases h3; rfl⟩
  by_cases q : cl.slots.size < 2147483648
  · exact q
  · simp [Term.eval, ht, h2, q] at h
theorem own_arv (hf : Fit Z) (ht : t.eval a0 Z none [] Z = some (.ref a)) (ha : (Jvm.Cond.arrayOf t ty).value a0 Z none Z [] = some true) (hl : (Jvm.Cond.eq (Jvm.Term.length t) (.int n)).value a0 Z none Z [] = some true) (hn : ¬ n < 0) (hv : n.toNatClampNeg = vs.length) (he : ∀ cl : Cell, Z.heap[a]? = some cl → HasL cl 0 vs) : Arv Z Z.heap a (kaOf Z a) ty n vs dv := by
  obtain ⟨cl, A⟩ := Arr.start ht ha
  obtain ⟨cl', h1, h2, h3⟩ := own_len (own_eqint hl) ht
  cases A.1.symm.trans h1
  have e : kaOf Z a = cl.cls := by simp only [kaOf, A.1]
  rw [e]
  exact Arv.start hf A h2 h3 hn hv (he cl A.1)
theorem own_lit {z k : Int32} {i : Int} (h : z.toInt = i) (hk : k.toInt = i) : z = k := Int32.toInt_inj.mp (h.trans hk.symm)
theorem own_max (x : Int32) : 0 ≤ (x &&& 2147483647).toInt := (c_andS x 2147483647).2.2 (by decide)
theorem own_rem (x : Int32) {n : Int32} {k : Int} (hk : n.toInt = k) (h0 : 0 < k) : 0 ≤ ((x &&& 2147483647) % n).toInt ∧ ((x &&& 2147483647) % n).toInt < k := by
  rw [(c_irem (x &&& 2147483647) n k hk).1 (own_max x)]
  exact ⟨Int.emod_nonneg _ (by omega), Int.emod_lt_of_pos _ h0⟩
variable {x k : Int32} {m : Int}
end Start
theorem av0 {P : Value → Prop} : ∀ u ∈ ([] : List Value), P u := fun _ q => nomatch q
theorem avS {P : Value → Prop} {y : Value} {L : List Value} (q : P y) (r : ∀ u ∈ L, P u) : ∀ u ∈ y :: L, P u := fun u z => (List.mem_cons.mp z).elim (fun e => e ▸ q) (r u)
def Lq (Z : State) (a0 : Array Value) (K O n d : String) (t : FieldType) : Prop := Laid Z a0 K O n d ∧ parseFieldDescriptor d = some t
theorem fo {Z : State} {a0 : Array Value} {h h' : Heap} {a b : Addr} {K O n d O' n' d' : String} {t t' : FieldType} {v w : Value} (F : Fld Z h b O n d w) (W : Wr h h' a (Jvm.RoadKit.slotOf Z O' n' d') v) (L : Lq Z a0 K O n d t) (L' : Lq Z a0 K O' n' d' t') (hn : n ≠ n') : Fld Z h' b O n d w := F.other W (Or.inr (slot_ne L.1 L'.1 hn L.2 L'.2))
theorem kaS {L ws : List Addr} {n : Nat} {y : Addr} (q : y ∈ L ∨ n ≤ y) (r : ∀ x ∈ ws, x ∈ L ∨ n ≤ x) : ∀ x ∈ y :: ws, x ∈ L ∨ n ≤ x := allS (P := fun x => x ∈ L ∨ n ≤ x) q r
/-! the newborn ones by age, and ways over many steps at once -/
def Sd (L : List Addr) : Prop := L.Pairwise (fun x y => y < x)
theorem Sd.one (a : Addr) : Sd [a] := List.pairwise_singleton _ _
theorem Sd.cons {L : List Addr} {x y : Addr} (S : Sd (x :: L)) (q : x < y) : Sd (y :: x :: L) := by
  refine List.pairwise_cons.mpr ⟨fun z hz => ?_, S⟩
  rcases List.mem_cons.mp hz with rfl | hz
  · exact q
  · exact Nat.lt_trans ((List.pairwise_cons.mp S).1 z hz) q
theorem Sd.lt {L : List Addr} {x y : Addr} (S : Sd L) (i j : Nat) (hi : L[i]? = some x) (hj : L[j]? = some y) (h : Nat.blt i j = true) : y < x := by
  obtain ⟨h1, rfl⟩ := List.getElem?_eq_some_iff.mp hi
  obtain ⟨h2, rfl⟩ := List.getElem?_eq_some_iff.mp hj
  exact List.pairwise_iff_getElem.mp S i j h1 h2 (Nat.le_of_ble_eq_true h)
theorem Sd.ne {L : List Addr} {x y : Addr} (S : Sd L) (i j : Nat) (hi : L[i]? = some x) (hj : L[j]? = some y) (h : Nat.beq i j = false) : x ≠ y := by
  rcases Nat.lt_or_gt_of_ne (fun q : i = j => by subst q; simp at h) with q | q
  · exact Nat.ne_of_gt (S.lt i j hi hj (Nat.ble_eq_true_of_le q))
  · exact Nat.ne_of_lt (S.lt j i hj hi (Nat.ble_eq_true_of_le q))
theorem Sd.nin {L ws : List Addr} {x : Addr} (S : Sd L) (i : Nat) (js : List Nat) (hi : L[i]? = some x) (hj : js.map (fun j => L[j]?) = ws.map some) (h : js.all (fun j => !Nat.beq i j) = true) : x ∉ ws := fun hx => by
  have q : some x ∈ ws.map some := List.mem_map.mpr ⟨x, hx, rfl⟩
  rw [← hj] at q
  obtain ⟨j, j1, j2⟩ := List.mem_map.mp q
  exact S.ne i j hi j2 (by simpa using List.all_eq_true.mp h j j1) rfl
theorem Keep.ofE {h h' : Heap} (E : Ext h h') : Keep h h' [] := (Keep.refl h []).ext E
theorem wsub {ws1 ws : List Addr} (is : List Nat) (h : is.map (fun i => ws[i]?) = ws1.map some) : ∀ x ∈ ws1, x ∈ ws := fun x hx => by
  have q : some x ∈ ws1.map some := List.mem_map.mpr ⟨x, hx, rfl⟩
  rw [← h] at q
  obtain ⟨i, -, j2⟩ := List.mem_map.mp q
  exact List.mem_of_getElem? j2
theorem Keep.cat {h h1 h2 : Heap} {ws1 ws2 : List Addr} (K : Keep h h1 ws1) (K' : Keep h1 h2 ws2) (ws : List Addr) (is js : List Nat) (hi : is.map (fun i => ws[i]?) = ws1.map some) (hj : js.map (fun i => ws[i]?) = ws2.map some) : Keep h h2 ws :=
  Keep.trans (ws := ws) ⟨K.1, fun x c q r => K.2.1 x c q fun z => r (wsub is hi x z), K.2.2⟩ K' fun x z => Or.inl (wsub js hj x z)
section Own3
variable {p : Program} {l : Launch} {e : Env} {R : Room} {s : State} {m : MethodId} {args : Array Value} {below : List Frame} {meth : Method} {c : Code} {T T' : State} {locs : List Loc} {cells slots : Nat} {Z : State} {a0 : Array Value} {h : Heap} {P : State → Prop} {pc q : Nat} {Ls : Array Slot} {S : List Value} {g g' : JFrame}
variable {y : MethodName} {bytes : ByteArray} {maxL : Nat} {ret : Option FieldType} {Q : Option Value → Heap → List Loc → Prop}
theorem ivW {h0 h' : Heap} {n sl : Nat} {ws : List Addr} {a : Addr} {v : Value} (N : Fr n locs) (O : Old Z n h) (K : Keep h0 h ws) (X : Stand p l e R s m args below meth c T (locs ++ [⟨a, sl⟩]) cells slots) (W : Wr h h' a sl v) (g : n ≤ a) (q : a ∈ ws ∨ h0.size ≤ a) : Fr n (locs ++ [⟨a, sl⟩]) ∧ Old Z n h' ∧ Keep h0 h' ws := ⟨Fr.snoc X N g, O.wr W g, K.wr W q⟩
theorem ivE {h0 h' : Heap} {ws : List Addr} {a : Addr} (O : Old Z Z.heap.size h) (K : Keep h0 h ws) (E : Ext h h') (z : h.size = a) : h0.size ≤ a ∧ Z.heap.size ≤ a ∧ Old Z Z.heap.size h' ∧ Keep h0 h' ws := ⟨Nat.le_trans K.1 (Nat.le_of_eq z), Nat.le_trans O.2.1 (Nat.le_of_eq z), O.ext E, K.ext E⟩
theorem ivK {h0 h' : Heap} {n : Nat} {ws ws' : List Addr} {L : List Loc} (N : Fr n locs) (O : Old Z n h) (K : Keep h0 h ws) (N' : Fr n L) (C : Keep h h' ws') (g : ∀ x ∈ ws', n ≤ x) (q : ∀ x ∈ ws', x ∈ ws ∨ h0.size ≤ x) : Fr n (locs ++ L) ∧ Old Z n h' ∧ Keep h0 h' ws := ⟨Fr.app N N', O.keep C g, K.trans C q⟩
/-! own3: more instructions -/
theorem G61 {index : Nat} {C O n d host : String} {a : Addr} {v : Value} (X : Stand p l e R s m args below meth c T locs cells slots) (K : Kt p Z s m meth c y bytes maxL ret) (w : (Jvm.Cond.fieldLinkNest y.cls index C n d host).before a0 Z = true) (via : Via Z C O n d) (eT : T.heap = h) (F : Fld Z h a O n d v) (hd : decode bytes pc = .ok (.getfield index, 3)) 
    (k : ∀ T', Stand p l e R s m args below meth c T' locs cells slots → T'.heap = h → Go p e below P T' (mkF m (pc + 3) Ls (v :: S))) : Go p e below P T (mkF m pc Ls (.ref a :: S)) := by
  obtain ⟨T1, X1, e1, st⟩ := getF X K.x K.z K.own (host := host) (Or.inr w) via eT F (g := mkF m pc Ls (.ref a :: S)) rfl rfl (K.d hd)
  exact Go.by_ st (k T1 X1 e1)
theorem G88 {index : Nat} {C n d host : String} {v : Value} (X : Stand p l e R s m args below meth c T locs cells slots) (K : Kt p Z s m meth c y bytes maxL ret) (w : (Jvm.Cond.fieldLinkNest y.cls index C n d host).before a0 Z = true) (eT : T.heap = h) (F : Sta Z h C n d v) (hd : decode bytes pc = .ok (.getstatic index, 3)) 
    (k : ∀ T', Stand p l e R s m args below meth c T' locs cells slots → T'.heap = h → Go p e below P T' (mkF m (pc + 3) Ls (v :: S))) : Go p e below P T (mkF m pc Ls S) := by
  obtain ⟨T1, X1, e1, st⟩ := getS2 X K.x K.z (host := host) K.own (Or.inr w) Via.refl eT F (g := mkF m pc Ls S) rfl (K.d hd)
  exact Go.by_ st (k T1 X1 e1)
theorem G65 {index : Nat} {C D : String} {a : Addr} (X : Stand p l e R s m args below meth c T locs cells slots) (K : Kt p Z s m meth c y bytes maxL ret) (w : (Jvm.Cond.classLink y.cls index C).before a0 Z = true) (eT : T.heap = h) (E : Exa Z h a D) (F : ∃ c t, Z.vm.findClass D = some c ∧ Z.vm.findClass C = some t ∧ Z.vm.assignable c t = false) (hd : decode bytes pc = .ok (.instanceof index, 3)) 
    (k : ∀ T', Stand p l e R s m args below meth c T' locs cells slots → T'.heap = h → Go p e below P T' (mkF m (pc + 3) Ls (.int 0 :: S))) : Go p e below P T (mkF m pc Ls (.ref a :: S)) := by
  obtain ⟨T1, X1, e1, st⟩ := instNo X K.x K.z K.own w eT E F (g := mkF m pc Ls (.ref a :: S)) rfl rfl (K.d hd)
  exact Go.by_ st (k T1 X1 e1)
theorem G85 (X : Stand p l e R s m args below meth c T locs cells slots) (K : Kt p Z s m meth c y bytes maxL ret) {index : Nat} {b : UInt32} (w : (Jvm.Cond.constantFloat y.cls index b).before a0 Z = true) (hd : decode bytes pc = .ok (.ldc index, 2)) (h : Go p e below P T (mkF m (pc + 2) Ls (.float b :: S))) : Go p e below P T (mkF m pc Ls S) := by
  exact Go.by_ (fun t k => X.ldcFloatC K.x K.own (mvT K.z w) (g := mkF m pc Ls S) rfl (K.d hd) _ k) h
theorem G56 (q : Nat) (X : Stand p l e R s m args below meth c T locs cells slots) (K : Kt p Z s m meth c y bytes maxL ret) {dflt : Int} {ps : Array (Int × Int)} {len : Nat} {a o : Int} {i : Int32} (hd : decode bytes pc = .ok (.lookupswitch dflt ps, len)) (hso : (ps.toList.zip (ps.toList.drop 1)).all (fun (a, next) => a.1 < next.1) = true) (hf : ps.find? (·.1 == i.toInt) = some (a, o)) (ho : 0 ≤ (pc : Int) + o) (hq : ((pc : Int) + o).toNat = q) (h : Go p e below P T (mkF m q Ls S)) : Go p e below P T (mkF m pc Ls (.int i :: S)) := by
  subst hq; exact Go.by_ (fun t k => X.lookupswitchHit K.x (g := mkF m pc Ls (.int i :: S)) rfl rfl (K.d hd) hso hf ho _ k) h
/-! mirrors -/
def MirA (Z : State) (C : String) (a : Addr) : Prop := ∃ (c : ClassId) (k : Class), Z.vm.findClass C = some c ∧ Z.vm.classes[c]? = some k ∧ k.mirror = some a
def mrOf (Z : State) (C : String) : Addr := match Z.vm.findClass C with | some c => (match Z.vm.classes[c]? with | some k => k.mirror.getD 0 | none => 0) | none => 0
theorem mrA {C : String} (h : ∃ (c : ClassId) (k : Class) (m : Addr), Z.vm.findClass C = some c ∧ Z.vm.classes[c]? = some k ∧ k.mirror = some m) : MirA Z C (mrOf Z C) := by
  obtain ⟨c, k, m, h1, h2, h3⟩ := h
  exact ⟨c, k, h1, h2, by simp [mrOf, h1, h2, h3]⟩
theorem G73 {index W : Nat} {C : String} {a mr : Addr} (X : Stand p l e R s m args below meth c T locs cells slots) (K : Kt p Z s m meth c y bytes maxL ret) (w1 : (Jvm.Cond.methodLink y.cls index Jvm.Stand.gcN).before a0 Z = true) (w2 : (Jvm.Cond.declares Jvm.Stand.gcN).before a0 Z = true) (w3 : (Jvm.Cond.noSuperclass "java/lang/Object").before a0 Z = true) (w4 : (Jvm.Cond.selects C Jvm.Stand.gcN Jvm.Stand.gcN).before a0 Z = true) (w5 : (Jvm.Cond.instanceMethod Jvm.Stand.gcN).before a0 Z = true) (w6 : (Jvm.Cond.native Jvm.Stand.gcN).before a0 Z = true) (eT : T.heap = h) (E : Exa Z h a C) (M : MirA Z C mr) (hsz : Ls.size = maxL) (hd : decode bytes pc = .ok (.invokevirtual index, 3)) (hf : 1 ≤ R.frames) (hW : (S.map fun v => v.category).sum ≤ W) (hl : W + 14 ≤ R.locals) 
    (k : ∀ T', Stand p l e R s m args below meth c T' locs cells slots → T'.heap = h → Go p e below P T' (mkF m (pc + 3) Ls (.ref mr :: S))) : Go p e below P T (mkF m pc Ls (.ref a :: S)) := by
  obtain ⟨cB, kB, i1, i2, i3⟩ := isOf K.z eT E
  obtain ⟨cc, kc, m1, m2, m3⟩ := M
  rw [K.z.alike.findClass] at i1
  cases i1.symm.trans m1
  obtain ⟨k', hk', ek⟩ := K.z.alike.2.2 _ _ m2
  obtain ⟨vm', X', st⟩ := X.getClassOf K.x K.own (mvT K.z w1) (mvT K.z w2) (nf_top (args := #[]) (mvT K.z w3)) (mvT K.z w4) (mvT K.z w5) (mvT K.z w6) (by rw [K.z.alike.findClass]; exact m1) i3 hk' (by rw [ek]; exact m3) (g := mkF m pc Ls (.ref a :: S)) rfl (by rw [K.ml]; exact hsz) rfl (K.d hd) hf (by rw [show nativeFrameWords "java/lang/Object" "getClass" 1 = 3 from by decide]; show 2 * 0 + _ + _ ≤ _; omega)
  exact Go.by_ st (k _ X' eT)
theorem G71 {index : Nat} {C : String} {mr : Addr} (X : Stand p l e R s m args below meth c T locs cells slots) (K : Kt p Z s m meth c y bytes maxL ret) (w : (Jvm.Cond.classLink y.cls index C).before a0 Z = true) (M : MirA Z C mr) (eT : T.heap = h) (hd : decode bytes pc = .ok (.ldc index, 2)) 
    (k : ∀ T', Stand p l e R s m args below meth c T' locs cells slots → T'.heap = h → Go p e below P T' (mkF m (pc + 2) Ls (.ref mr :: S))) : Go p e below P T (mkF m pc Ls S) := by
  obtain ⟨cc, kc, m1, m2, m3⟩ := M
  obtain ⟨k', hk', ek⟩ := K.z.alike.2.2 _ _ m2
  have ev : (Term.mirror C).eval args s none [] s = some (.ref mr) := by
    have f1 : s.vm.findClass C = some cc := by rw [K.z.alike.findClass]; exact m1
    have f3 : k'.mirror = some mr := by rw [ek]; exact m3
    simp [Term.eval, f1, hk', f3]
  obtain ⟨vm', X', st⟩ := X.ldcMirror K.x K.own (mv K.z w) ev (g := mkF m pc Ls S) rfl (K.d hd)
  exact Go.by_ st (k _ X' eT)
/-! arrays of references that know their class -/
theorem G54 {index : Nat} {C ad : String} {n : Int32} {cap : Nat} {vs : List Value} (X : Stand p l e R s m args below meth c T locs cells slots) (K : Kt p Z s m meth c y bytes maxL ret) (had : "[" ++ (FieldType.object C).toString = ad) (w : (Jvm.Cond.classLink y.cls index C).before a0 Z = true) (w2 : (Jvm.Cond.arrayOver (.object C)).before a0 Z = true) (eT : T.heap = h) (hd : decode bytes pc = .ok (.anewarray index, 3)) (hn : ¬ n < 0) (hcap : n.toNatClampNeg ≤ cap) (hvs : List.replicate cap Value.null = vs) (hb : cap * 8 ≤ 536870912) (hc : cells + 1 ≤ R.cells) (hl : slots + cap ≤ R.slots) 
    (k : ∀ (T' : State) (h' : Heap) (a : Addr) (kA : ClassId), Stand p l e R s m args below meth c T' locs (cells + 1) (slots + cap) → T'.heap = h' → Ext h h' → h.size = a → Arv Z h' a kA (.object C) n vs .null → Ovr Z kA C → Exa Z h' a ad → Go p e below P T' (mkF m (pc + 3) Ls (.ref a :: S))) : Go p e below P T (mkF m pc Ls (.int n :: S)) := by
  subst hvs
  obtain ⟨T1, h1, kA, X1, e1, E1, A1, B1, O1, st⟩ := newRE X K.x K.z K.own w w2 eT (g := mkF m pc Ls (.int n :: S)) rfl (K.d hd) rfl hn hcap hb hc hl had
  exact Go.by_ st (k T1 h1 _ kA X1 e1 E1 rfl ((Arv.new A1 hn).pad (pad_rep [] _ cap)) O1 B1)
/-! arraycopy of references -/
theorem G72 {index W : Nat} {a b : Addr} {kA kB : ClassId} {C C' : String} {z z' nn : Int32} {vs vd us vr : List Value} {dv dd : Value} (X : Stand p l e R s m args below meth c T locs cells slots) (K : Kt p Z s m meth c y bytes maxL ret) (w1 : (Jvm.Cond.methodLink y.cls index Jvm.Stand.acN).before a0 Z = true) (w2 : (Jvm.Cond.native Jvm.Stand.acN).before a0 Z = true) (w3 : (Jvm.Cond.static Jvm.Stand.acN).before a0 Z = true) (w4 : (Jvm.Cond.initialized "java/lang/System").before a0 Z = true) (eT : T.heap = h)
    (A : Arv Z h a kA (.object C) z vs dv) (B : Arv Z h b kB (.object C') z' vd dd) (h3 : ¬ nn < 0) (h4 : nn.toNatClampNeg ≤ z.toNatClampNeg) (h5 : nn.toNatClampNeg ≤ z'.toNatClampNeg) (hus : (List.range nn.toNatClampNeg).map (fun i => vs.getD i dv) = us) (hS : ∀ u ∈ us, u = .null ∨ ∃ b, u = .ref b ∧ Ovr Z kB C' ∧ Ins Z h b C' true) (hl' : nn.toNatClampNeg ≤ vd.length) (hr : us ++ vd.drop nn.toNatClampNeg = vr) (N : Fr Z.heap.size locs) (ge : Z.heap.size ≤ b) (hsz : Ls.size = maxL) (hd : decode bytes pc = .ok (.invokestatic index, 3)) (hf : 1 ≤ R.frames) (hW : (S.map fun v => v.category).sum ≤ W) (hlo : W + (nativeFrameWords "java/lang/System" "arraycopy" 5 + 11) ≤ R.locals) 
    (k : ∀ T' h' L, Stand p l e R s m args below meth c T' L cells slots → T'.heap = h' → Fr Z.heap.size L → Keep h h' [b] → Arv Z h' b kB (.object C') z' vr dd → Go p e below P T' (mkF m (pc + 3) Ls S)) : Go p e below P T (mkF m pc Ls (.int nn :: .int 0 :: .ref b :: .int 0 :: .ref a :: S)) := by
  have z0 : (0 : Int32).toNatClampNeg = 0 := rfl
  obtain ⟨cB, Ar, q1, -⟩ := id B
  have hst : StoL Z h b us := by
    clear hus hr
    induction us with
    | nil => trivial
    | cons u r ih =>
      refine ⟨?_, ih fun v hv => hS v (List.mem_cons_of_mem _ hv)⟩
      rcases hS u (List.mem_cons_self ..) with rfl | ⟨b', rfl, O, I⟩
      · exact Or.inl rfl
      · exact Sto.ofV Ar q1 O I
  obtain ⟨T1, h1, L1, X1, e1, N1, K1, A1, st⟩ := cpA X K.x K.z K.own w1 w2 w3 w4 eT A B (us := us) (Or.inr ⟨rfl, rfl, hst⟩) (by decide : ¬ (0 : Int32) < 0) (by decide : ¬ (0 : Int32) < 0) h3 (by rw [z0]; omega) (by rw [z0]; omega) (by rw [← hus]; simp [z0]) (by rw [z0]; omega) N ge (g := mkF m pc Ls (.int nn :: .int 0 :: .ref b :: .int 0 :: .ref a :: S)) rfl (by rw [K.ml]; exact hsz) rfl (K.d hd) hf (W := W) (by show 2 * 0 + _ ≤ _; omega) hlo
  refine Go.by_ st (k T1 h1 L1 X1 e1 N1 K1 ?_)
  rw [z0, List.take_zero, List.nil_append, Nat.zero_add, hr] at A1
  exact A1
/-! an element of an array of which a part is told -/
theorem G55 {a : Addr} {ty : FieldType} {j : Int32} {v : Value} (X : Stand p l e R s m args below meth c T locs cells slots) (K : Kt p Z s m meth c y bytes maxL ret) (eT : T.heap = h) (A : ∃ cl, Arr Z h a cl ty ∧ ¬ (j < 0 ∨ cl.slots.size ≤ j.toNatClampNeg) ∧ cl.slots[j.toNatClampNeg]? = some v) (hty : ty.isReference = true) (hd : decode bytes pc = .ok (.aaload, 1)) (k : Go p e below P T (mkF m (pc + 1) Ls (v :: S))) : Go p e below P T (mkF m pc Ls (.int j :: .ref a :: S)) := by
  obtain ⟨cl, Ar, hin, hat⟩ := A
  exact Go.by_ (fun t k => X.aaload K.x (by rw [eT]; exact Ar.1) (State.isArrayOf_alike K.z.alike Ar.2.1) hty Ar.2.2 hin hat (g := mkF m pc Ls (.int j :: .ref a :: S)) rfl rfl (K.d hd) _ k) k
/-! bodies with an exception table -/
def MtW (l : Launch) (Z : State) (y : MethodName) (bytes : ByteArray) (maxL : Nat) (ret : Option FieldType) (hs : List (Nat × Nat × Nat × Nat)) (rm : Room) (as' : Array Value) (h0 : Heap) (Q : Option Value → Heap → List Loc → Prop) : Prop :=
  MetFree l y (head1 [Jvm.Cond.codeWith y bytes maxL ret hs] rm) (fun a U => a = as' ∧ Z.Warmed39 U.vm ∧ U.heap = h0) (fun _ _ _ _ _ => True) (fun _ U o U' => ∃ v L, o = .returned v ∧ Q v U'.heap L ∧ FrameEnd U o U' L rm.cells rm.slots)
theorem g_bodyW {hs : List (Nat × Nat × Nat × Nat)} {rm : Room} {as' : Array Value} {h0 : Heap} (hpl : plainFor y = true)
    (H : ∀ (p : Program) (e : Env) (s : State) (m : MethodId) (below : List Frame) (meth : Method) (c : Code) (T : State), Kt p Z s m meth c y bytes maxL ret → Stand p l e rm s m as' below meth c T [] 0 0 → T.heap = h0 → Go p e below (Done s below Q rm.cells rm.slots) T (entryFrame m as' maxL)) :
    MtW l Z y bytes maxL ret hs rm as' h0 Q := by
  refine MetFree.of_bodySF hpl hisWith ?_
  intro p e s m args below meth c s₁ Bd hml0 hP hK
  obtain ⟨rfl, hZ, hh⟩ := hP
  obtain ⟨n, a, o, b1, b2, b3⟩ := H p e s m below meth c s₁ ⟨Bd.exec, hZ, Bd.bytes, hml0, findClass_of_methodNamed Bd.named, Bd.returns, BodyLoose.notSynchronized Bd, (name_of_methodNamed Bd.named Bd.method).1, Bd.named⟩ (Stand.of_body Bd) (by rw [← hh, Bd.state]; rfl)
  exact ⟨n, o, a, b1, b2, b3⟩
variable {y' : MethodName} {bytes' : ByteArray} {maxL' : Nat} {ret' : Option FieldType} {rm : Room} {as' : Array Value} {Q' : Option Value → Heap → List Loc → Prop} {index : Nat} {argsL rest : List Value} {W : Nat}
theorem G59 {a : Addr} {C : String} {z' : MethodName} {cnt : Nat} {hs' : List (Nat × Nat × Nat × Nat)} (X : Stand p l e R s m args below meth c T locs cells slots) (K : Kt p Z s m meth c y bytes maxL ret) (w1 : (Jvm.Cond.methodLink y.cls index y').before a0 Z = true) (w2 : (Jvm.Cond.declares y').before a0 Z = true) (wf : (Jvm.Cond.interfaceMethod y'.cls y'.cls y'.name y'.desc).before args s = true) (w5 : (Jvm.Cond.selects C y' z').before a0 Z = true) (w6 : (Jvm.Cond.instanceMethod z').before a0 Z = true) (wp : (Jvm.Cond.publicMethod z').before a0 Z = true) (wu : (Jvm.Cond.unhidden C y'.name y'.desc).before a0 Z = true) (wca : (Jvm.Cond.castable C y'.cls).before a0 Z = true) (w3 : (Jvm.Cond.initialized z'.cls).before a0 Z = true) (w4 : (Jvm.Cond.codeWith z' bytes' maxL' ret' hs').before a0 Z = true) (hy : y'.cls ≠ "java/lang/invoke/MethodHandle" ∧ y'.cls ≠ "java/lang/invoke/VarHandle")
    (hM : MtW l Z z' bytes' maxL' ret' hs' rm as' h Q') (eT : T.heap = h) (E : Exa Z h a C) (hsz : Ls.size = maxL) (has : (Value.ref a :: argsL).toArray = as') (hst : S = argsL.reverse ++ .ref a :: rest) (hlen : ∀ sig, parseMethodDescriptor y'.desc = some sig → argsL.length = sig.parameters.length) (hW : (rest.map fun v => v.category).sum = W) (hd : decode bytes pc = .ok (.invokeinterface index cnt, 5))
    (hr : rm.frames + 1 ≤ R.frames ∧ W + (maxL' + 11) + rm.locals ≤ R.locals ∧ cells + rm.cells ≤ R.cells ∧ slots + rm.slots ≤ R.slots) 
    (k : ∀ T' v L, Stand p l e R s m args below meth c T' (locs ++ L) (cells + rm.cells) (slots + rm.slots) → Q' v T'.heap L → Go p e below P T' (mkF m (pc + 5) Ls (v.toList ++ rest))) : Go p e below P T (mkF m pc Ls S) := by
  subst has hst
  obtain ⟨cq, kq, qa, qb, qc⟩ := isOf K.z eT E
  obtain ⟨v, _, ⟨T1, L1, k1, n1⟩, -, X1, ⟨Lc, hQ, l1, y1, z1⟩, st⟩ := X.interfaceBack K.x (xi := y') (y := z') K.own (mvT K.z w1) (mvT K.z w2) wf (mvT K.z w5) (mvT K.z w6) (mvT K.z wp) (mvT K.z wu) (mvT K.z wca) hy (backOfWith (W := W) hM K.z w4 w3 hr.1 hr.2.1) qa qb qc (g := mkF m pc Ls (argsL.reverse ++ .ref a :: rest)) rfl (by rw [K.ml]; exact hsz) (Steps.refl _) (argsL := argsL) (rest := rest) hlen rfl (by show 2 * 0 + _ ≤ _; omega) (K.d hd) (fun _ _ => ⟨rfl, eT, hr.2.2.1, hr.2.2.2⟩)
  dsimp only [Pt.U, Pt.locs, Pt.cells, Pt.slots] at X1 l1 y1 z1 st hQ
  subst l1 y1 z1
  exact Go.tr st (k T1 v Lc X1 hQ)
theorem G83 {a : Addr} {host : String} (X : Stand p l e R s m args below meth c T locs cells slots) (K : Kt p Z s m meth c y bytes maxL ret) (hy1 : y'.name = "<init>") (w1 : (Jvm.Cond.methodLinkNest y.cls index y' host).before a0 Z = true) (w2 : (Jvm.Cond.instanceMethod y').before a0 Z = true) (w3 : (Jvm.Cond.initialized y'.cls).before a0 Z = true) (w4 : (Jvm.Cond.code y' bytes' maxL' none).before a0 Z = true) (hy : y'.cls ≠ "java/lang/invoke/MethodHandle" ∧ y'.cls ≠ "java/lang/invoke/VarHandle")
    (hM : Mt l Z y' bytes' maxL' none [] rm as' h Q') (eT : T.heap = h) (hsz : Ls.size = maxL) (has : (Value.ref a :: argsL).toArray = as') (hst : S = argsL.reverse ++ .ref a :: rest) (hlen : ∀ sig, parseMethodDescriptor y'.desc = some sig → argsL.length = sig.parameters.length) (hW : (rest.map fun v => v.category).sum = W) (hd : decode bytes pc = .ok (.invokespecial index, 3))
    (hr : rm.frames + 1 ≤ R.frames ∧ W + (maxL' + 11) + rm.locals ≤ R.locals ∧ cells + rm.cells ≤ R.cells ∧ slots + rm.slots ≤ R.slots) 
    (k : ∀ T' v L, Stand p l e R s m args below meth c T' (locs ++ L) (cells + rm.cells) (slots + rm.slots) → Q' v T'.heap L → Go p e below P T' (mkF m (pc + 3) Ls (v.toList ++ rest))) : Go p e below P T (mkF m pc Ls S) := by
  subst has hst
  obtain ⟨v, _, ⟨T1, L1, k1, n1⟩, -, X1, ⟨Lc, hQ, l1, y1, z1⟩, st⟩ := X.specialBackNest K.x (y := y') hy1 K.own (Cond.methodLinkNest_wide K.z w1 :) (mvT K.z w2) (mvT K.z w4) hy (backOf (W := W) hM K.z w4 w3 hr.1 hr.2.1) (g := mkF m pc Ls (argsL.reverse ++ .ref a :: rest)) rfl (by rw [K.ml]; exact hsz) (Steps.refl _) (a := a) (argsL := argsL) (rest := rest) hlen rfl (by show 2 * 0 + _ ≤ _; omega) (K.d hd) (fun _ _ => ⟨rfl, eT, hr.2.2.1, hr.2.2.2⟩)
  dsimp only [Pt.U, Pt.locs, Pt.cells, Pt.slots] at X1 l1 y1 z1 st hQ
  subst l1 y1 z1
  exact Go.tr st (k T1 v Lc X1 hQ)
theorem G25 {a : Addr} {C : String} (X : Stand p l e R s m args below meth c T locs cells slots) (K : Kt p Z s m meth c y bytes maxL ret) (w1 : (Jvm.Cond.methodLink y.cls index y').before a0 Z = true) (wpr : (Jvm.Cond.privateMethod y').before a0 Z = true) (w5 : (Jvm.Cond.selects y'.cls y' y').before a0 Z = true) (w6 : (Jvm.Cond.instanceMethod y').before a0 Z = true) (w3 : (Jvm.Cond.initialized y'.cls).before a0 Z = true) (w4 : (Jvm.Cond.code y' bytes' maxL' ret').before a0 Z = true) (hy : y'.cls ≠ "java/lang/invoke/MethodHandle" ∧ y'.cls ≠ "java/lang/invoke/VarHandle")
    (hM : Mt l Z y' bytes' maxL' ret' [] rm as' h Q') (eT : T.heap = h) (E : Exa Z h a C) (hsz : Ls.size = maxL) (has : (Value.ref a :: argsL).toArray = as') (hst : S = argsL.reverse ++ .ref a :: rest) (hlen : ∀ sig, parseMethodDescriptor y'.desc = some sig → argsL.length = sig.parameters.length) (hW : (rest.map fun v => v.category).sum = W) (hd : decode bytes pc = .ok (.invokevirtual index, 3))
    (hr : rm.frames + 1 ≤ R.frames ∧ W + (maxL' + 11) + rm.locals ≤ R.locals ∧ cells + rm.cells ≤ R.cells ∧ slots + rm.slots ≤ R.slots) 
    (k : ∀ T' v L, Stand p l e R s m args below meth c T' (locs ++ L) (cells + rm.cells) (slots + rm.slots) → Q' v T'.heap L → Go p e below P T' (mkF m (pc + 3) Ls (v.toList ++ rest))) : Go p e below P T (mkF m pc Ls S) := by
  subst has hst
  obtain ⟨cell, k0, c1, c2, c3, c4, -⟩ := E
  obtain ⟨v, _, ⟨T1, L1, k1, n1⟩, -, X1, ⟨Lc, hQ, l1, y1, z1⟩, st⟩ := X.privateBack K.x (y := y') K.own (mvT K.z w1) (mvT K.z w6) (mvT K.z w5) (Cond.privateMethod_at (args := #[]) (mvT K.z wpr)) (mvT K.z w4) hy (backOf (W := W) hM K.z w4 w3 hr.1 hr.2.1) (g := mkF m pc Ls (argsL.reverse ++ .ref a :: rest)) rfl (by rw [K.ml]; exact hsz) (Steps.refl _) (a := a) (cell := cell) (by rw [eT]; exact c1) (fun q hq => by rw [hq] at c4; cases c4) (argsL := argsL) (rest := rest) hlen rfl (by show 2 * 0 + _ ≤ _; omega) (K.d hd) (fun _ _ => ⟨rfl, eT, hr.2.2.1, hr.2.2.2⟩)
  dsimp only [Pt.U, Pt.locs, Pt.cells, Pt.slots] at X1 l1 y1 z1 st hQ
  subst l1 y1 z1
  exact Go.tr st (k T1 v Lc X1 hQ)
/-! a class that isn't among another's superclasses, of an instantiable class -/
def NI (Z : State) (C K : String) : Prop := ∃ c t, Z.vm.findClass C = some c ∧ Z.vm.findClass K = some t ∧ ∀ fuel, Z.vm.isSubclassAux fuel c t = false
theorem NI.root {O K : String} {n : Nat} (w : (Jvm.Cond.noSuperclass O).before a0 Z = true) (wk : (Jvm.Cond.instantiable K n).before a0 Z = true) (hn : O ≠ K) : NI Z O K := by
  obtain ⟨c, k, h1, h2, h3, -, -⟩ := Cond.noSuperclass_spec w
  obtain ⟨t, kt, g1, -⟩ := Cond.instantiable_spec wk
  have ne := ids_ne h1 g1 hn
  refine ⟨c, t, h1, g1, fun fuel => ?_⟩
  cases fuel with
  | zero => rfl
  | succ f => simp [Vm.isSubclassAux, ne, h2, h3]
theorem NI.step {C S K : String} (w : (Jvm.Cond.superclass C S).before a0 Z = true) (n : NI Z S K) (hn : C ≠ K) : NI Z C K := by
  obtain ⟨c', t, g1, g2, g3⟩ := n
  obtain ⟨c, h0⟩ := found_sup w
  obtain ⟨p, k, kp, h1, h2, h3, h4, -⟩ := Cond.superclass_spec h0 w
  cases g1.symm.trans h1
  have ne := ids_ne h0 g2 hn
  refine ⟨c, t, h0, g2, fun fuel => ?_⟩
  cases fuel with
  | zero => rfl
  | succ f => simp [Vm.isSubclassAux, ne, h2, h4, g3]
theorem NI.no {C S K : String} {n : Nat} (w : (Jvm.Cond.superclass C S).before a0 Z = true) (wk : (Jvm.Cond.instantiable K n).before a0 Z = true) (nn : NI Z C K) (hn : C ≠ K) : ∃ c t, Z.vm.findClass C = some c ∧ Z.vm.findClass K = some t ∧ Z.vm.assignable c t = false := by
  obtain ⟨c, t, h0, g0, n3⟩ := nn
  obtain ⟨p, k, kp, h1, h2, h3, h4, h5, -, h7⟩ := Cond.superclass_spec h0 w
  obtain ⟨t', k', g1, g2, g5, g7, -⟩ := Cond.instantiable_spec wk
  cases g0.symm.trans g1
  have ne := ids_ne h0 g0 hn
  have g8 : k'.isInterface = false := by revert g7; cases k'.isInterface <;> simp
  refine ⟨c, t, h0, g0, ?_⟩
  show Z.vm.assignableAux (255 + 1) c t = false
  simp [Vm.assignableAux, ne, h2, g2, h5, g5, g8, Vm.isSubclass, n3]
/-! the table of boxed ints -/
def elOf (t : Jvm.Term) (Z : State) (a0 : Array Value) (j : Int32) : Addr := match (Jvm.Term.elem t (.int j)).eval a0 Z none [] Z with | some (.ref a) => a | _ => 0
theorem own_tab {t : Jvm.Term} {a : Addr} {ty : FieldType} {C : String} {rest : Jvm.Cond} {n j : Int32} (ht : t.eval a0 Z none [] Z = some (.ref a)) (ha : (Jvm.Cond.arrayOf t ty).value a0 Z none Z [] = some true) (hl : (Jvm.Cond.eq (Jvm.Term.length t) (.int n)).value a0 Z none Z [] = some true) (hall : (Jvm.Cond.all t (Jvm.Cond.and (Jvm.Cond.exactly (Jvm.Term.elem t (Jvm.Term.index 0)) C) rest)).value a0 Z none Z [] = some true) (hti : t.eval a0 Z none [j.toNatClampNeg] Z = t.eval a0 Z none [] Z) (hj : ¬ j < 0 ∧ j < n) (hn : ¬ n < 0) :
    ∃ cl, Arr Z Z.heap a cl ty ∧ ¬ (j < 0 ∨ cl.slots.size ≤ j.toNatClampNeg) ∧ cl.slots[j.toNatClampNeg]? = some (.ref (elOf t Z a0 j)) := by
  obtain ⟨cl, A⟩ := Arr.start ht ha
  obtain ⟨cl', h1, h2, h3⟩ := own_len (own_eqint hl) ht
  cases A.1.symm.trans h1
  have hsz : cl.slots.size = n.toNatClampNeg := by
    have := congrArg Int32.toInt h3; rw [len_toInt h2] at this
    simp only [Int32.toNatClampNeg]; omega
  have hin := inb_of hsz hj
  have hlt : j.toNatClampNeg < cl.slots.size := Nat.lt_of_not_le fun q => hin (Or.inr q)
  have harr : Z.arrayAt? a = some cl := by
    obtain ⟨b, cl2, q1, q2, -⟩ := Term.length_spec (own_eqint hl)
    cases ht.symm.trans q1
    cases (State.arrayAt?_spec q2).1.symm.trans h1
    exact q2
  have hv := hall
  simp only [Cond.value, ht, harr] at hv
  have hx := Jvm.Cond.all_elim ht harr hall _ hlt
  obtain ⟨hx1, -⟩ := and_e hx
  obtain ⟨x, hx2⟩ := exa_v hx1
  refine ⟨cl, A, hin, ?_⟩
  have hix : (Jvm.Term.index 0).eval a0 Z none [j.toNatClampNeg] Z = some (.int j) := idx_at hj.1
  have e1 := (elem_in hx2 (hti.trans ht) hix h1).2
  have e2 : (Jvm.Term.elem t (.int j)).eval a0 Z none [] Z = some (.ref x) := by rw [← e1]; exact elem_f ht (Term.int_eval j) harr hj.1
  simp only [elOf, e2]; exact e1
end Own3
section Own4
variable {p : Program} {l : Launch} {e : Env} {R : Room} {s : State} {m : MethodId} {args : Array Value} {below : List Frame} {meth : Method} {c : Code} {T T' : State} {locs : List Loc} {cells slots : Nat} {Z : State} {a0 : Array Value} {h : Heap} {P : State → Prop} {pc q : Nat} {Ls : Array Slot} {S : List Value} {g g' : JFrame}
variable {y : MethodName} {bytes : ByteArray} {maxL : Nat} {ret : Option FieldType} {Q : Option Value → Heap → List Loc → Prop}
/-! own4: chars, clones, narrow fields -/
theorem G76 {index kk : Nat} {C O n d Cl : String} {a : Addr} {v v' old : Value} {ty : FieldType} (X : Stand p l e R s m args below meth c T locs cells slots) (K : Kt p Z s m meth c y bytes maxL ret) (w : (Jvm.Cond.fieldLink y.cls index C n d).before a0 Z = true) (via : Via Z C O n d) (eT : T.heap = h) (F : Fld Z h a O n d old) (E : Exa Z h a Cl) (L : (Jvm.Cond.lays Cl O n d).before a0 Z = true ∨ ((Jvm.Cond.laysFinal Cl O n d).before a0 Z = true ∧ y.cls = O ∧ y.name = "<init>")) (wi : (Jvm.Cond.instantiable Cl kk).before a0 Z = true)
    (hty : parseFieldDescriptor d = some ty) (hn : narrow ty v = v') (hf : fits ty v' = true) (hd : decode bytes pc = .ok (.putfield index, 3)) 
    (k : ∀ T' h', Stand p l e R s m args below meth c T' (locs ++ [⟨a, Jvm.RoadKit.slotOf Z O n d⟩]) cells slots → T'.heap = h' → Wr h h' a (Jvm.RoadKit.slotOf Z O n d) v' → Fld Z h' a O n d v' → Go p e below P T' (mkF m (pc + 3) Ls S)) : Go p e below P T (mkF m pc Ls (v :: .ref a :: S)) := by
  obtain ⟨T1, h1, X1, e1, W1, st⟩ := putFN X K.x K.z K.own w via eT F E (L.imp id fun q => ⟨q.1, q.2.1, K.nm.trans q.2.2⟩) wi hty hn hf (g := mkF m pc Ls (v :: .ref a :: S)) rfl rfl (K.d hd)
  exact Go.by_ st (k T1 h1 X1 e1 W1 (F.same W1))
end Own4
section Own5
variable {p : Program} {l : Launch} {e : Env} {R : Room} {s : State} {m : MethodId} {args : Array Value} {below : List Frame} {meth : Method} {c : Code} {T T' : State} {locs : List Loc} {cells slots : Nat} {Z : State} {a0 : Array Value} {h : Heap} {P : State → Prop} {pc q : Nat} {Ls : Array Slot} {S : List Value} {g g' : JFrame}
variable {y : MethodName} {bytes : ByteArray} {maxL : Nat} {ret : Option FieldType} {Q : Option Value → Heap → List Loc → Prop} {kc ks : Nat} {vm0 : Vm} {k0 : Nat}
/-! own5: bodies that load a text -/
def DoneW (s : State) (below : List Frame) (Q : Option Value → Heap → List Loc → Prop) (kc ks : Nat) (n : State) : Prop :=
  ∃ o, n.status = .running ∧ Ended n below o ∧ ∃ v L, o = .returned v ∧ Q v n.heap L ∧ ReturnedEndW s o n L kc ks
theorem rw_mono {n : State} {o : Outcome} {L : List Loc} {k1 k2 k3 k4 : Nat} (H : ReturnedEndW s o n L k1 k2) (hc : k1 ≤ k3) (hs : k2 ≤ k4) : ReturnedEndW s o n L k3 k4 := ⟨H.1, H.2.1, H.2.2.1, H.2.2.2.mono hc hs⟩
def MtS (l : Launch) (Z : State) (y : MethodName) (bytes : ByteArray) (maxL : Nat) (ret : Option FieldType) (ws : List Jvm.Cond) (rm : Room) (as' : Array Value) (h0 : Heap) (Q : Option Value → Heap → List Loc → Prop) : Prop :=
  MetFree l y (head1 (Jvm.Cond.code y bytes maxL ret :: ws) rm) (fun a U => a = as' ∧ Z.Warmed39 U.vm ∧ U.heap = h0 ∧ IB Z U.vm []) (fun _ _ _ _ _ => True) (fun _ U o U' => ∃ v L, o = .returned v ∧ Q v U'.heap L ∧ ReturnedEndW U o U' L rm.cells rm.slots)
theorem g_bodyS {ws : List Jvm.Cond} {rm : Room} {as' : Array Value} {h0 : Heap} (hpl : plainFor y = true)
    (H : ∀ (p : Program) (e : Env) (s : State) (m : MethodId) (below : List Frame) (meth : Method) (c : Code) (T : State), Kt p Z s m meth c y bytes maxL ret → Stand p l e rm s m as' below meth c T [] 0 0 → T.heap = h0 → s.heap = h0 → IB Z s.vm [] → Go p e below (DoneW s below Q rm.cells rm.slots) T (entryFrame m as' maxL)) :
    MtS l Z y bytes maxL ret ws rm as' h0 Q := by
  refine MetFree.of_bodySF hpl hisR ?_
  intro p e s m args below meth c s₁ Bd hml0 hP hK
  obtain ⟨rfl, hZ, hh, hI⟩ := hP
  obtain ⟨n, a, o, b1, b2, b3⟩ := H p e s m below meth c s₁ ⟨Bd.exec, hZ, Bd.bytes, hml0, findClass_of_methodNamed Bd.named, Bd.returns, BodyLoose.notSynchronized Bd, (name_of_methodNamed Bd.named Bd.method).1, Bd.named⟩ (Stand.of_body Bd) (by rw [← hh, Bd.state]; rfl) hh hI
  exact ⟨n, o, a, b1, b2, b3⟩
/-! returns behind a load -/
theorem G69 {t : FieldType} (X : Stand p l e R (s.setVm vm0) m args below meth c T locs cells slots) (K : Kt p Z (s.setVm vm0) m meth c y bytes maxL (some t)) (hS : s.Since vm0 k0) (hk : k0 ≤ T.heap.size) (ht : t = .boolean ∨ t = .byte ∨ t = .char ∨ t = .short) {z z' : Int32} (hn : nar t z = z') (hd : decode bytes pc = .ok (.ireturn, 1)) (hc : cells ≤ kc) (hs : slots ≤ ks) (hQ : Q (some (.int z')) T.heap locs) : Go p e below (DoneW s below Q kc ks) T (mkF m pc Ls (.int z :: S)) := by
  subst hn
  obtain ⟨fs, hr, hrun, hended, hR⟩ := X.leaveW hS hk (v := some (.int (nar t z))) (fun h => by rw [K.rt] at h; cases h) K.lk
  exact ⟨_, retN X K.x K.rt ht (K.d hd) hr, _, hrun, hended, _, _, rfl, hQ, rw_mono hR hc hs⟩
theorem since_refl (s : State) (k : Nat) : s.Since s.vm k := ⟨State.Warmed39.refl s, by
  intro j p hj hp
  exact absurd (Array.getElem?_eq_some_iff.mp hp).1 (Nat.not_lt.mpr hj)⟩
/-! a load of a text, the first -/
/-! .. and again -/
/-! calls of such bodies -/
variable {y' : MethodName} {bytes' : ByteArray} {maxL' : Nat} {ret' : Option FieldType} {rm : Room} {as' : Array Value} {Q' : Option Value → Heap → List Loc → Prop} {index : Nat} {argsL rest : List Value} {W : Nat}
end Own5
section Own6
variable {p : Program} {l : Launch} {e : Env} {R : Room} {s : State} {m : MethodId} {args : Array Value} {below : List Frame} {meth : Method} {c : Code} {T T' : State} {locs : List Loc} {cells slots : Nat} {Z : State} {a0 : Array Value} {h : Heap} {P : State → Prop} {pc q : Nat} {Ls : Array Slot} {S : List Value}
variable {y : MethodName} {bytes : ByteArray} {maxL : Nat} {ret : Option FieldType} {vm0 : Vm} {k0 : Nat}
/-! own6: a text's address alone -/
theorem G82 {index n : Nat} {text : String} (X : Stand p l e R (s.setVm vm0) m args below meth c T locs cells slots) (K : Kt p Z (s.setVm vm0) m meth c y bytes maxL ret) (hS : s.Since vm0 k0) (eT : T.heap = h) (hk : k0 ≤ h.size) (w : (Jvm.Cond.stringLink y.cls index text).before a0 Z = true) (wS : ∀ a ∈ Bundle.stringAtoms, a.before a0 Z = true) (hd : decode bytes pc = .ok (.ldc index, 2)) (hn : 4 * text.toList.length ≤ n) (hbig : n ≤ 536870912) (hc : cells + 2 ≤ R.cells) (hl : slots + (n + 4) ≤ R.slots) 
    (k : ∀ (T' : State) (h' : Heap) (vm' : Vm) (k1 : Nat) (a : Addr), Stand p l e R (s.setVm vm') m args below meth c T' locs (cells + 2) (slots + (n + 4)) → Kt p Z (s.setVm vm') m meth c y bytes maxL ret → T'.heap = h' → Ext h h' → s.Since vm' k1 → k1 ≤ h'.size → Go p e below P T' (mkF m (pc + 2) Ls (.ref a :: S))) : Go p e below P T (mkF m pc Ls S) := by
  obtain ⟨a, T1, h1, k1, x1, x2, x3, x4, x5, x6, x7, st⟩ := ldcS X K.x (show Z.Warmed39 vm0 from K.z) K.own w wS eT hS hk (g := mkF m pc Ls S) rfl (K.d hd) hn hbig hc hl
  have q1 : Z.methodNamed? y = some m := by
    have q := State.methodNamed?_setVm (s := Z) K.z.alike y
    rw [← q]; exact K.named
  have q2 : (s.setVm T1.vm).methodNamed? y = some m := by
    have q := State.methodNamed?_setVm (s := Z) (vm' := T1.vm) x6.alike y
    exact q.trans q1
  exact Go.by_ st (k T1 h1 T1.vm k1 a x1 ⟨K.1, x6, K.2.2.1, K.2.2.2.1, x7, K.rt, K.lk, K.nm, q2⟩ x2 x3 x4 x5)
end Own6
section Own7
variable {p : Program} {l : Launch} {e : Env} {R : Room} {s : State} {m : MethodId} {args : Array Value} {below : List Frame} {meth : Method} {c : Code} {T T' : State} {locs : List Loc} {cells slots : Nat} {Z : State} {a0 : Array Value} {h : Heap} {P : State → Prop} {pc q : Nat} {Ls : Array Slot} {S : List Value}
variable {y : MethodName} {bytes : ByteArray} {maxL : Nat} {ret : Option FieldType}
/-! own7: longs, a choice of two constants -/
theorem G68 {a : Addr} {kA : ClassId} {n j : Int32} {vs : List Value} {dv v : Value} (X : Stand p l e R s m args below meth c T locs cells slots) (K : Kt p Z s m meth c y bytes maxL ret) (eT : T.heap = h) (A : Arv Z h a kA .long n vs dv) (hj : ¬ j < 0 ∧ j < n) (hv : vs.getD j.toNatClampNeg dv = v) (hd : decode bytes pc = .ok (.laload, 1)) (k : Go p e below P T (mkF m (pc + 1) Ls (v :: S))) : Go p e below P T (mkF m pc Ls (.int j :: .ref a :: S)) := by
  obtain ⟨cl, Ar, hin, hat⟩ := arv_at A hj hv
  exact Go.by_ (fun t k => X.laload K.x (by rw [eT]; exact Ar.1) (State.isArrayOf_alike K.z.alike Ar.2.1) Ar.2.2 hin hat (g := mkF m pc Ls (.int j :: .ref a :: S)) rfl rfl (K.d hd) _ k) k
theorem G80 (X : Stand p l e R s m args below meth c T locs cells slots) (K : Kt p Z s m meth c y bytes maxL ret) {x y z : Int64} (hd : decode bytes pc = .ok (.land, 1)) (hz : x &&& y = z) (h : Go p e below P T (mkF m (pc + 1) Ls (.long z :: S))) : Go p e below P T (mkF m pc Ls (.long y :: .long x :: S)) := by
  subst hz; exact Go.by_ (fun t k => XT.land X.here K.x rfl (K.d hd) rfl k) h
theorem G79 (X : Stand p l e R s m args below meth c T locs cells slots) (K : Kt p Z s m meth c y bytes maxL ret) {x y z : Int64} (hd : decode bytes pc = .ok (.lxor, 1)) (hz : x ^^^ y = z) (h : Go p e below P T (mkF m (pc + 1) Ls (.long z :: S))) : Go p e below P T (mkF m pc Ls (.long y :: .long x :: S)) := by
  subst hz; exact Go.by_ (fun t k => XT.lxor X.here K.x rfl (K.d hd) rfl k) h
theorem G44 (X : Stand p l e R s m args below meth c T locs cells slots) (K : Kt p Z s m meth c y bytes maxL ret) {x u w v : Int32} {i j : Int} (d0 : decode bytes pc = .ok (.ifCond .eq 7, 3)) (d1 : decode bytes (pc + 3) = .ok (.iconst i, 1)) (d2 : decode bytes (pc + 4) = .ok (.goto 4, 3)) (d3 : decode bytes (pc + 7) = .ok (.iconst j, 1)) (hi : Int32.ofInt i = u) (hj : Int32.ofInt j = w) (hq : pc + 8 = q) (hv : (if x = 0 then w else u) = v) (k : Go p e below P T (mkF m q Ls (.int v :: S))) : Go p e below P T (mkF m pc Ls (.int x :: S)) := by
  subst hq hv
  by_cases hx : x = 0
  · rw [if_pos hx] at k
    refine G15 X K (q := pc + 7) d0 (teq hx).1 (by omega) (by omega) ?_
    exact G3 X K d3 hj k
  · rw [if_neg hx] at k
    refine G11 X K d0 (feq hx).1 ?_
    refine G3 X K d1 hi ?_
    exact G6 X K (q := pc + 8) d2 (by omega) (by omega) k
theorem g_be {rm : Room} {as' : Array Value} {h0 : Heap} {L0 : Array Slot} {Q : Option Value → Heap → List Loc → Prop} (hpl : plainFor y = true) (hE : ∀ m, entryFrame m as' maxL = mkF m 0 L0 [])
    (H : ∀ {p : Program} {e : Env} {s : State} {m : MethodId} {below : List Frame} {meth : Method} {c : Code} (T : State), Kt p Z s m meth c y bytes maxL ret → Stand p l e rm s m as' below meth c T [] 0 0 → T.heap = h0 → Go p e below (Done s below Q rm.cells rm.slots) T (mkF m 0 L0 [])) : Mt l Z y bytes maxL ret [] rm as' h0 Q :=
  g_body hpl fun p e s m below meth c T K X e0 => g_entry (hE m) (H T K X e0)
theorem selPriv {n : Nat} (wi : (Jvm.Cond.instantiable y.cls n).before a0 Z = true) (wp : (Jvm.Cond.privateMethod y).before a0 Z = true) (w6 : (Jvm.Cond.instanceMethod y).before a0 Z = true) (hy : y.cls ≠ "java/lang/invoke/MethodHandle" ∧ y.cls ≠ "java/lang/invoke/VarHandle") : (Jvm.Cond.selects y.cls y y).before a0 Z = true := by
  obtain ⟨t, k, g1, g2, -, g4, -⟩ := Cond.instantiable_spec wi
  exact selects_self_of_private g1 g2 (by cases h : k.isInterface <;> simp [h] at g4 ⊢) (Cond.privateMethod_at wp) w6 hy
theorem st_up {c2 s2 : Nat} (X : Stand p l e R s m args below meth c T locs cells slots) (hc : cells ≤ c2) (hs : slots ≤ s2) : Stand p l e R s m args below meth c T locs c2 s2 := { X with same := X.same.mono hc hs }
end Own7
/-! the plain law of s031-m2-1 -/
def fl (x : Int32) : Int32 := if x = 0 then 0 else 1
def vl (x : Int32) : Int32 := if x = 0 then 2 else 1
theorem and1 (x : Int32) : x &&& 1 = 0 ∨ x &&& 1 = 1 := by
  have e : (x &&& 1).toBitVec = BitVec.setWidth 32 (BitVec.ofBool (x.toBitVec.getLsbD 0)) := by
    rw [Int32.toBitVec_and]; exact BitVec.and_one_eq_setWidth_ofBool_getLsbD
  cases h : x.toBitVec.getLsbD 0 <;> rw [h] at e
  · exact Or.inl (Int32.toBitVec_inj.mp (e.trans (by decide)))
  · exact Or.inr (Int32.toBitVec_inj.mp (e.trans (by decide)))
theorem fl01 {x y : Int32} (h : fl x = y) : y = 0 ∨ y = 1 := by
  subst h; unfold fl; split
  · exact Or.inl rfl
  · exact Or.inr rfl
theorem fl_narrow {y : Int32} (h : y = 0 ∨ y = 1) : narrow .boolean (.int y) = .int y := by rcases h with rfl | rfl <;> decide
theorem fl_fits {y : Int32} (h : y = 0 ∨ y = 1) : fits .boolean (.int y) = true := by rcases h with rfl | rfl <;> decide
theorem vl12 (y : Int32) : vl y = 1 ∨ vl y = 2 := by
  unfold vl; split
  · exact Or.inr rfl
  · exact Or.inl rfl
theorem vl_ne (y : Int32) : ¬ ((0 : Int32) = vl y) := by rcases vl12 y with h | h <;> rw [h] <;> decide
theorem vl_nar (y : Int32) : nar .byte (vl y) = vl y := by rcases vl12 y with h | h <;> rw [h] <;> decide
theorem vl_inj {x y : Int32} (hx : x = 0 ∨ x = 1) (hy : y = 0 ∨ y = 1) (h : vl x = vl y) : x = y := by
  rcases hx with rfl | rfl <;> rcases hy with rfl | rfl
  · rfl
  · exact absurd h (by decide)
  · exact absurd h (by decide)
  · rfl
def msk (o : Int32) : Int64 := (7 : Int64) &&& (((1 : Int64) <<< ((o % (3 : Int32)) &&& 0x3f).toInt64) ^^^ (-1 : Int64))
def Cl (a b : Int32) : Prop := (a = 0 ∨ a = 1 ∨ a = 2) ∧ (b = 3 ∨ b = 4 ∨ b = 5)
def Cn (e o c : Int32) : Prop := o / (3 : Int32) = c ∧ (¬ ((e * (2 : Int32)) + c) < 0 ∧ ((e * (2 : Int32)) + c) < (12 : Int32)) ∧ ((e * (2 : Int32)) + c).toNatClampNeg < 12 ∧ lcmpW (msk o) 0 = 1
def Ce (a b : Int32) : Prop := a < b ∧ ¬ (b < a) ∧ (¬ ((a * (6 : Int32)) + b) < 0 ∧ ((a * (6 : Int32)) + b) < (36 : Int32)) ∧ ((a * (6 : Int32)) + b).toNatClampNeg < 36 ∧ a / (3 : Int32) = 0 ∧ b / (3 : Int32) = 1
theorem cl_ce {a b : Int32} (h : Cl a b) : Ce a b := by
  obtain ⟨ha, hb⟩ := h
  rcases ha with rfl | rfl | rfl <;> rcases hb with rfl | rfl | rfl <;> unfold Ce <;> decide
theorem cn1 {a b : Int32} (h : Cl a b) : Cn a b 1 := by
  obtain ⟨ha, hb⟩ := h
  rcases ha with rfl | rfl | rfl <;> rcases hb with rfl | rfl | rfl <;> unfold Cn <;> decide
theorem cn0 {a b : Int32} (h : Cl a b) : Cn b a 0 := by
  obtain ⟨ha, hb⟩ := h
  rcases ha with rfl | rfl | rfl <;> rcases hb with rfl | rfl | rfl <;> unfold Cn <;> decide
abbrev ix (a b : Int32) : Nat := ((a * (6 : Int32)) + b).toNatClampNeg
abbrev la (a : Int32) : Nat := ((a * (2 : Int32)) + (1 : Int32)).toNatClampNeg
abbrev lb (b : Int32) : Nat := ((b * (2 : Int32)) + (0 : Int32)).toNatClampNeg
theorem la_lb {a b : Int32} (h : Cl a b) : la a ≠ lb b := by
  obtain ⟨ha, hb⟩ := h
  rcases ha with rfl | rfl | rfl <;> rcases hb with rfl | rfl | rfl <;> decide
theorem ix_inj {a b a' b' : Int32} (h : Cl a b) (h' : Cl a' b') (q : ix a b = ix a' b') : a = a' ∧ b = b' := by
  obtain ⟨ha, hb⟩ := h; obtain ⟨ha', hb'⟩ := h'
  revert q
  rcases ha with rfl | rfl | rfl <;> rcases hb with rfl | rfl | rfl <;> rcases ha' with rfl | rfl | rfl <;> rcases hb' with rfl | rfl | rfl <;> decide
theorem la_inj {a b a' b' : Int32} (h : Cl a b) (h' : Cl a' b') (q : la a = la a') : a = a' := by
  obtain ⟨ha, hb⟩ := h; obtain ⟨ha', hb'⟩ := h'
  revert q
  rcases ha with rfl | rfl | rfl <;> rcases ha' with rfl | rfl | rfl <;> decide
theorem lb_inj {a b a' b' : Int32} (h : Cl a b) (h' : Cl a' b') (q : lb b = lb b') : b = b' := by
  obtain ⟨ha, hb⟩ := h; obtain ⟨ha', hb'⟩ := h'
  revert q
  rcases hb with rfl | rfl | rfl <;> rcases hb' with rfl | rfl | rfl <;> decide
theorem ix_lt {a b : Int32} (h : Cl a b) : ix a b < 36 := (cl_ce h).2.2.2.1
theorem gd_self {vs : List Value} {k : Nat} {v d : Value} (h : k < vs.length) : (vs.set k v).getD k d = v := by simp [List.getD, h]
theorem gd_ne {vs : List Value} {k j : Nat} {v d : Value} (h : k ≠ j) : (vs.set k v).getD j d = vs.getD j d := by simp [List.getD, List.getElem?_set_ne h]
def Li (vs : List Value) (e c : Int32) (v d : Value) : Prop := vs.length = 12 ∧ vs.getD ((e * (2 : Int32)) + c).toNatClampNeg d = v
theorem lil {vs : List Value} {e c : Int32} {k : Nat} {v d : Value} (L : Li vs e c v d) (h : k < 12) : k < vs.length := by rw [L.1]; exact h
def Gs (vv sv pv ov : List Value) (a b : Int32) : Prop := Cl a b ∧ vv.length = 36 ∧ sv.length = 36 ∧ vv.getD (ix a b) (.int 0) = .int 0 ∧ (Li pv a 1 (.int (-1)) (.int 0) ∧ Li pv b 0 (.int (-1)) (.int 0)) ∧ Li ov a 1 (.long 7) (.long 0) ∧ Li ov b 0 (.long 7) (.long 0)
section Pure
variable {vv sv pv ov pv' ov' : List Value} {a b a' b' : Int32}
theorem gs_v (G : Gs vv sv pv ov a b) : ix a b < vv.length := by rw [G.2.1]; exact ix_lt G.1
theorem gs_s (G : Gs vv sv pv ov a b) : ix a b < sv.length := by rw [G.2.2.1]; exact ix_lt G.1
theorem li2 {vs : List Value} {v d x : Value} (h : Cl a b) (L : Li vs b 0 v d) : Li (vs.set (la a) x) b 0 v d := ⟨by rw [List.length_set]; exact L.1, (gd_ne (la_lb h)).trans L.2⟩
def Of (vs vs' : List Value) (a b : Int32) : Prop := vs'.length = vs.length ∧ ∀ (k : Nat) (d : Value), k ≠ la a → k ≠ lb b → vs'.getD k d = vs.getD k d
theorem of_refl (vs : List Value) (a b : Int32) : Of vs vs a b := ⟨rfl, fun _ _ _ _ => rfl⟩
theorem of_set (vs : List Value) (a b : Int32) (x y : Value) : Of vs ((vs.set (la a) x).set (lb b) y) a b := ⟨by simp, fun k d h1 h2 => (gd_ne h2.symm).trans (gd_ne h1.symm)⟩
def z36 : List Value := List.replicate 36 (.int 0)
def p12 : List Value := List.replicate 12 (.int (-1))
def o12 : List Value := List.replicate 12 (.long 7)
theorem rep_at {n k : Nat} {v d : Value} (h : k < n) : (List.replicate n v).getD k d = v := by simp [List.getD, h]
theorem z_at {k : Nat} (h : k < 36) : z36.getD k (.int 0) = .int 0 := rep_at h
theorem p_at {k : Nat} (h : k < 12) : p12.getD k (.int 0) = .int (-1) := rep_at h
theorem o_at {k : Nat} (h : k < 12) : o12.getD k (.long 0) = .long 7 := rep_at h
theorem gs0 (h : Cl a b) : Gs z36 z36 p12 o12 a b := ⟨h, rfl, rfl, z_at (ix_lt h), ⟨⟨rfl, p_at (cn1 h).2.2.1⟩, rfl, p_at (cn0 h).2.2.1⟩, ⟨rfl, o_at (cn1 h).2.2.1⟩, rfl, o_at (cn0 h).2.2.1⟩
theorem gs1 {x y : Value} (h : Cl a b) (h' : Cl a' b') (n1 : a ≠ a') (n2 : b ≠ b') (O1 : Of p12 pv a b) (O2 : Of o12 ov a b) : Gs (z36.set (ix a b) x) (z36.set (ix a b) y) pv ov a' b' := by
  have e1 : la a' ≠ la a := fun q => n1 (la_inj h h' q.symm)
  have e2 : la a' ≠ lb b := la_lb ⟨h'.1, h.2⟩
  have e3 : lb b' ≠ la a := (la_lb ⟨h.1, h'.2⟩).symm
  have e4 : lb b' ≠ lb b := fun q => n2 (lb_inj h h' q.symm)
  refine ⟨h', by simp [z36], by simp [z36], ?_, ⟨⟨O1.1, ?_⟩, O1.1, ?_⟩, ⟨O2.1, ?_⟩, O2.1, ?_⟩
  · exact (gd_ne fun q => n1 (ix_inj h h' q).1).trans (z_at (ix_lt h'))
  · exact (O1.2 _ _ e1 e2).trans (p_at (cn1 h').2.2.1)
  · exact (O1.2 _ _ e3 e4).trans (p_at (cn0 h').2.2.1)
  · exact (O2.2 _ _ e1 e2).trans (o_at (cn1 h').2.2.1)
  · exact (O2.2 _ _ e3 e4).trans (o_at (cn0 h').2.2.1)
/-! what stands in a cell behind the fills -/
def Rd (vs : List Value) (dp dq ea eb bp bq x y : Int32) : Prop := vs.getD (ix ea eb) (.int 0) = .int (if dp ≠ 0 ∧ ea = 0 ∧ eb = bp then x else if dq ≠ 0 ∧ ea = 1 ∧ eb = bq then y else 0)
variable {dp dq ea eb bp bq x y x' y' ap aq : Int32}
theorem len36 (k : Nat) (v : Value) : (z36.set k v).length = 36 := by simp [z36]
theorem rd_p {vs : List Value} (hl : vs.length = 36) (h : Cl ea eb) (hp : Cl ap bp) (ha : (0 : Int32) = ap) (hd : ¬ dp = 0) (R : ¬ (ea = 0 ∧ eb = bp) → Rd vs 0 dq ea eb bp bq x y) : Rd (vs.set (ix ap bp) (.int x)) dp dq ea eb bp bq x y := by
  subst ha
  unfold Rd
  by_cases q : ea = 0 ∧ eb = bp
  · rw [if_pos ⟨hd, q.1, q.2⟩, q.1, q.2]; exact gd_self (by rw [hl]; exact ix_lt hp)
  · rw [if_neg fun z => q z.2]
    have r := R q
    unfold Rd at r
    rw [if_neg fun z => z.1 rfl] at r
    exact (gd_ne fun z => q ⟨(ix_inj hp h z).1.symm, (ix_inj hp h z).2.symm⟩).trans r
theorem rd_q {vs : List Value} (hl : vs.length = 36) (h : Cl ea eb) (hq : Cl aq bq) (ha : (1 : Int32) = aq) (hd : ¬ dq = 0) (R : ¬ (ea = 1 ∧ eb = bq) → Rd vs dp 0 ea eb bp bq x y) : Rd (vs.set (ix aq bq) (.int y)) dp dq ea eb bp bq x y := by
  subst ha
  unfold Rd
  by_cases q : ea = 1 ∧ eb = bq
  · have n : ¬ (dp ≠ 0 ∧ ea = 0 ∧ eb = bp) := fun z => absurd (z.2.1.symm.trans q.1) (by decide)
    rw [if_neg n, if_pos ⟨hd, q.1, q.2⟩, q.1, q.2]; exact gd_self (by rw [hl]; exact ix_lt hq)
  · have r := R q
    unfold Rd at r
    rw [if_neg (c := dq ≠ 0 ∧ ea = 1 ∧ eb = bq) fun z => q z.2]
    rw [if_neg (c := (0 : Int32) ≠ 0 ∧ ea = 1 ∧ eb = bq) fun z => z.1 rfl] at r
    exact (gd_ne fun z => q ⟨(ix_inj hq h z).1.symm, (ix_inj hq h z).2.symm⟩).trans r
theorem rd0 (h : Cl ea eb) : Rd z36 0 0 ea eb bp bq x y := by
  unfold Rd
  rw [if_neg fun z => z.1 rfl, if_neg fun z => z.1 rfl]; exact z_at (ix_lt h)
theorem rdN (h : Cl ea eb) (hp : dp = 0) (hq : dq = 0) : Rd z36 dp dq ea eb bp bq x y := by subst hp hq; exact rd0 h
theorem rdP (h : Cl ea eb) (cp : Cl ap bp) (ha : (0 : Int32) = ap) (hp : ¬ dp = 0) (hq : dq = 0) : Rd (z36.set (ix ap bp) (.int x)) dp dq ea eb bp bq x y := by subst hq; exact rd_p rfl h cp ha hp fun _ => rd0 h
theorem rdQ (h : Cl ea eb) (cq : Cl aq bq) (ha : (1 : Int32) = aq) (hp : dp = 0) (hq : ¬ dq = 0) : Rd (z36.set (ix aq bq) (.int y)) dp dq ea eb bp bq x y := by subst hp; exact rd_q rfl h cq ha hq fun _ => rd0 h
theorem rdPQ (h : Cl ea eb) (cp : Cl ap bp) (cq : Cl aq bq) (ha : (0 : Int32) = ap) (hb : (1 : Int32) = aq) (hp : ¬ dp = 0) (hq : ¬ dq = 0) : Rd ((z36.set (ix ap bp) (.int x)).set (ix aq bq) (.int y)) dp dq ea eb bp bq x y :=
  rd_q (len36 _ _) h cq hb hq fun _ => rd_p rfl h cp ha hp fun _ => rd0 h
theorem rdQP (h : Cl ea eb) (cp : Cl ap bp) (cq : Cl aq bq) (ha : (0 : Int32) = ap) (hb : (1 : Int32) = aq) (hp : ¬ dp = 0) (hq : ¬ dq = 0) : Rd ((z36.set (ix aq bq) (.int y)).set (ix ap bp) (.int x)) dp dq ea eb bp bq x y :=
  rd_p (len36 _ _) h cp ha hp fun _ => rd_q rfl h cq hb hq fun _ => rd0 h
/-! the answer -/
theorem fin1 {yp yq k sp sq zv zs x1 xx : Int32} (b1 : yp = 0 ∨ yp = 1) (b2 : yq = 0 ∨ yq = 1) (b3 : k = 0 ∨ k = 1) (hv : (if dp ≠ 0 ∧ ea = 0 ∧ eb = bp then vl yp else if dq ≠ 0 ∧ ea = 1 ∧ eb = bq then vl yq else 0) = zv) (hs : (if dp ≠ 0 ∧ ea = 0 ∧ eb = bp then sp else if dq ≠ 0 ∧ ea = 1 ∧ eb = bq then sq else 0) = zs)
    (h1 : (if dp ≠ 0 ∧ ea = 0 ∧ eb = bp ∧ yp = k then sp else 2147483647) = x1) (h2 : (if dq ≠ 0 ∧ ea = 1 ∧ eb = bq ∧ yq = k then sq else x1) = xx) (hc : zv = vl k) : zs = xx := by
  by_cases c1 : dp ≠ 0 ∧ ea = 0 ∧ eb = bp
  · rw [if_pos c1] at hv hs
    have e := vl_inj b1 b3 (hv.trans hc)
    rw [if_pos ⟨c1.1, c1.2.1, c1.2.2, e⟩] at h1
    rw [if_neg fun z => absurd (c1.2.1.symm.trans z.2.1) (by decide)] at h2
    rw [← hs, ← h2, ← h1]
  · rw [if_neg c1] at hv hs
    by_cases c2 : dq ≠ 0 ∧ ea = 1 ∧ eb = bq
    · rw [if_pos c2] at hv hs
      rw [if_pos ⟨c2.1, c2.2.1, c2.2.2, vl_inj b2 b3 (hv.trans hc)⟩] at h2
      rw [← hs, ← h2]
    · rw [if_neg c2] at hv
      exact absurd (hv.trans hc) (vl_ne k)
theorem fin2 {yp yq k sp sq zv x1 xx : Int32} (hv : (if dp ≠ 0 ∧ ea = 0 ∧ eb = bp then vl yp else if dq ≠ 0 ∧ ea = 1 ∧ eb = bq then vl yq else 0) = zv)
    (h1 : (if dp ≠ 0 ∧ ea = 0 ∧ eb = bp ∧ yp = k then sp else 2147483647) = x1) (h2 : (if dq ≠ 0 ∧ ea = 1 ∧ eb = bq ∧ yq = k then sq else x1) = xx) (hc : ¬ zv = vl k) : (2147483647 : Int32) = xx := by
  have n1 : ¬ (dp ≠ 0 ∧ ea = 0 ∧ eb = bp ∧ yp = k) := fun c => hc (by rw [if_pos ⟨c.1, c.2.1, c.2.2.1⟩] at hv; rw [← hv, c.2.2.2])
  have n2 : ¬ (dq ≠ 0 ∧ ea = 1 ∧ eb = bq ∧ yq = k) := fun c => hc (by
    rw [if_neg fun z => absurd (z.2.1.symm.trans c.2.1) (by decide), if_pos ⟨c.1, c.2.1, c.2.2.1⟩] at hv; rw [← hv, c.2.2.2])
  rw [if_neg n1] at h1; rw [if_neg n2] at h2; rw [← h2, ← h1]
/-! the names of the law -/
theorem t3 {z : Int32} (h : 0 ≤ z.toInt ∧ z.toInt < 3) : z = 0 ∨ z = 1 ∨ z = 2 := by
  have q : z.toInt = 0 ∨ z.toInt = 1 ∨ z.toInt = 2 := by omega
  rcases q with q | q | q
  · exact Or.inl (own_lit q (by decide))
  · exact Or.inr (Or.inl (own_lit q (by decide)))
  · exact Or.inr (Or.inr (own_lit q (by decide)))
theorem u3 {r z : Int32} (h : r = 0 ∨ r = 1 ∨ r = 2) (e : (3 : Int32) + r = z) : z = 3 ∨ z = 4 ∨ z = 5 := by
  subst e; rcases h with rfl | rfl | rfl <;> decide
theorem jj3 {i s j : Int32} (hi : i = 0 ∨ i = 1 ∨ i = 2) (hs : s = 0 ∨ s = 1) (e : ((i + (1 : Int32)) + s) % (3 : Int32) = j) : (j = 0 ∨ j = 1 ∨ j = 2) ∧ i ≠ j := by
  subst e; rcases hi with rfl | rfl | rfl <;> rcases hs with rfl | rfl <;> decide
theorem ne3 {i j z w : Int32} (hi : i = 0 ∨ i = 1 ∨ i = 2) (hj : j = 0 ∨ j = 1 ∨ j = 2) (n : i ≠ j) (e : (3 : Int32) + i = z) (f : (3 : Int32) + j = w) : z ≠ w := by
  subst e f; revert n; rcases hi with rfl | rfl | rfl <;> rcases hj with rfl | rfl | rfl <;> decide
end Pure

theorem ow {a : Addr} {ws : List Addr} {P : Prop} (i : Nat) (h : ws[i]? = some a) : a ∈ ws ∨ P := Or.inl (List.mem_of_getElem? h)

abbrev vr (a : Addr) : Slot := .val (.ref a)
abbrev vi (a : Int32) : Slot := .val (.int a)
abbrev vn : Slot := .val .null
abbrev un : Slot := .unset
abbrev Q0 : String := "java/lang/Integer$IntegerCache"
abbrev Q1 : String := "com/example/cluewright/cluewright/Grid"
abbrev Q2 : String := "[Ljava/lang/Integer;"
abbrev Q3 : String := "java/lang/Object"
abbrev Q4 : String := "com/example/cluewright/cluewright/Puzzle"
abbrev Q5 : String := "com/example/cluewright/cluewright/Step"
abbrev Q6 : String := "java/util/HashMap$Node"
abbrev Q7 : String := "[Ljava/lang/Object;"
abbrev Q8 : String := "java/util/ArrayList"
abbrev Q9 : String := "java/util/ImmutableCollections$ListItr"
abbrev Q10 : String := "java/lang/String"
abbrev Q11 : String := "com/example/cluewright/cluewright/Category"
abbrev Q12 : String := "cache"
abbrev Q13 : String := "java/util/ImmutableCollections$ListN"
abbrev Q14 : String := "java/util/ArrayList$Itr"
abbrev Q15 : String := "java/util/HashMap"
abbrev Q16 : String := "java/util/ImmutableCollections$List12"
abbrev Q17 : String := "com/example/cluewright/cluewright/GridFilledFromPinLaw"
abbrev Q18 : String := "java/util/ImmutableCollections"
abbrev Q19 : String := "java/util/List"
abbrev Q20 : String := "Ljava/lang/Object;"
abbrev Q21 : String := "Ljava/util/List;"
abbrev Q22 : String := "DEFAULTCAPACITY_EMPTY_ELEMENTDATA"
abbrev Q23 : String := "java/util/ImmutableCollections$AbstractImmutableList"
abbrev Q24 : String := "java/lang/Integer"
abbrev Q25 : String := "[Ljava/util/HashMap$Node;"
abbrev Q26 : String := "java/util/AbstractList"
abbrev Q27 : String := "Ljava/util/ImmutableCollections$ListN;"
abbrev Q28 : String := "Lcom/example/cluewright/cluewright/Puzzle;"
abbrev Q29 : String := "Lcom/example/cluewright/cluewright/Reason;"
abbrev Q30 : String := "Lcom/example/cluewright/cluewright/Chain;"
abbrev Q31 : String := "Lcom/example/cluewright/cluewright/Clue;"
abbrev Q32 : String := "elements"
abbrev Q33 : String := "Ljava/lang/String;"
abbrev Q34 : String := "EMPTY_ELEMENTDATA"
abbrev Q35 : String := "size"
abbrev Q36 : String := "com/example/cluewright/cluewright/Reason"
abbrev Q37 : String := "com/example/cluewright/cluewright/Chain"
abbrev Q38 : String := "com/example/cluewright/cluewright/Clue"
abbrev Q39 : String := "COMPACT_STRINGS"
abbrev Q40 : String := "java/util/AbstractCollection"
abbrev Q41 : String := "[Ljava/lang/String;"
abbrev Q42 : String := "java/util/Arrays"
abbrev Q43 : String := "modCount"
abbrev Q44 : String := "Ljava/util/HashMap$Node;"
abbrev Q45 : String := "java/util/ImmutableCollections$AbstractImmutableCollection"
abbrev Q46 : String := "categories"
abbrev Q47 : String := "java/util/Iterator"
abbrev Q48 : String := "Ljava/util/ArrayList;"
abbrev Q49 : String := "value"
abbrev Q50 : String := "expectedModCount"
abbrev Q51 : String := "java/util/DualPivotQuicksort"
abbrev Q52 : String := "Ljava/util/Map;"
abbrev Q53 : String := "cursor"
abbrev Q54 : String := "isListIterator"
abbrev Q55 : String := "elementData"
abbrev Q56 : String := "EMPTY_LIST"
abbrev C0 : ByteArray := prog_18_method_22_code
abbrev C1 : ByteArray := prog_18_method_1_code
abbrev C2 : ByteArray := prog_29_method_1_code
abbrev C3 : ByteArray := jdk_69_method_16_code
abbrev C4 : ByteArray := prog_18_method_29_code
abbrev C5 : ByteArray := prog_18_method_30_code
abbrev C6 : ByteArray := jdk_69_method_17_code
abbrev C7 : ByteArray := jdk_49_method_3_code
abbrev C8 : ByteArray := jdk_42_method_78_code
abbrev C9 : ByteArray := prog_37_method_1_code
abbrev C10 : ByteArray := jdk_2529_method_4_code
abbrev C11 : ByteArray := prog_18_method_14_code
abbrev C12 : ByteArray := jdk_56_method_4_code
abbrev C13 : ByteArray := prog_18_method_32_code
abbrev C14 : ByteArray := prog_18_method_31_code
abbrev C15 : ByteArray := jdk_38_method_24_code
abbrev C16 : ByteArray := jdk_38_method_25_code
abbrev C17 : ByteArray := jdk_65_method_120_code
abbrev C18 : ByteArray := jdk_70_method_1_code
abbrev C19 : ByteArray := prog_18_method_7_code
abbrev C20 : ByteArray := jdk_42_method_139_code
abbrev C21 : ByteArray := jdk_38_method_6_code
abbrev C22 : ByteArray := jdk_40_method_47_code
abbrev C23 : ByteArray := jdk_33_method_22_code
abbrev C24 : ByteArray := jdk_53_method_4_code
abbrev C25 : ByteArray := jdk_65_method_103_code
abbrev C26 : ByteArray := jdk_65_method_101_code
abbrev C27 : ByteArray := jdk_69_method_1_code
abbrev C28 : ByteArray := jdk_43_method_21_code
abbrev C29 : ByteArray := prog_18_method_24_code
abbrev C30 : ByteArray := jdk_2529_method_3_code
abbrev C31 : ByteArray := jdk_53_method_1_code
abbrev C32 : ByteArray := jdk_69_method_15_code
abbrev C33 : ByteArray := jdk_56_method_3_code
abbrev C34 : ByteArray := jdk_49_method_1_code
abbrev C35 : ByteArray := jdk_43_method_46_code
abbrev C36 : ByteArray := jdk_69_method_46_code
abbrev C37 : ByteArray := prog_18_method_20_code
abbrev C38 : ByteArray := prog_6_method_1_code
abbrev C39 : ByteArray := jdk_49_method_2_code
abbrev C40 : ByteArray := jdk_53_method_3_code
abbrev C41 : ByteArray := jdk_43_method_3_code
abbrev C42 : ByteArray := jdk_44_method_2_code
abbrev C43 : ByteArray := jdk_42_method_151_code
abbrev C44 : ByteArray := prog_29_method_20_code
abbrev C45 : ByteArray := jdk_29_method_69_code
abbrev C46 : ByteArray := jdk_38_method_20_code
abbrev C47 : ByteArray := jdk_45_method_1_code
abbrev C48 : ByteArray := jdk_42_method_154_code
abbrev C49 : ByteArray := prog_29_method_22_code
abbrev C50 : ByteArray := jdk_29_method_65_code
abbrev C51 : ByteArray := jdk_49_method_6_code
abbrev C52 : ByteArray := jdk_65_method_119_code
abbrev C53 : ByteArray := jdk_2529_method_6_code
abbrev C54 : ByteArray := jdk_38_method_16_code
abbrev C55 : ByteArray := jdk_41_method_11_code
abbrev C56 : ByteArray := jdk_46_method_10_code
abbrev C57 : ByteArray := jdk_38_method_7_code
abbrev C58 : ByteArray := jdk_45_method_4_code
abbrev C59 : ByteArray := jdk_44_method_3_code
abbrev C60 : ByteArray := jdk_65_method_2_code
abbrev C61 : ByteArray := jdk_38_method_2_code
abbrev C62 : ByteArray := jdk_39_method_1_code
abbrev C63 : ByteArray := jdk_38_method_9_code
abbrev C64 : ByteArray := jdk_69_method_7_code
abbrev C65 : ByteArray := prog_29_method_15_code
abbrev C66 : ByteArray := prog_29_method_19_code
abbrev C67 : ByteArray := jdk_31_method_17_code
abbrev C68 : ByteArray := jdk_38_method_18_code
abbrev C69 : ByteArray := jdk_38_method_55_code
abbrev C70 : ByteArray := jdk_38_method_8_code
abbrev C71 : ByteArray := prog_29_method_12_code
abbrev C72 : ByteArray := prog_29_method_13_code
abbrev C73 : ByteArray := jdk_40_method_48_code
abbrev C74 : ByteArray := jdk_31_method_10_code
abbrev C75 : ByteArray := prog_37_method_8_code
abbrev C76 : ByteArray := jdk_45_method_3_code
abbrev C77 : ByteArray := prog_29_method_11_code
abbrev C78 : ByteArray := jdk_22_method_1_code
abbrev C79 : ByteArray := jdk_30_method_1_code
abbrev C80 : ByteArray := jdk_46_method_1_code
abbrev C81 : ByteArray := jdk_47_method_1_code
abbrev C82 : ByteArray := jdk_71_method_1_code
abbrev C83 : ByteArray := prog_6_method_6_code
abbrev M0 : MethodName := ⟨Q8, "<init>", "()V"⟩
abbrev M1 : MethodName := ⟨Q26, "<init>", "()V"⟩
abbrev M2 : MethodName := ⟨Q40, "<init>", "()V"⟩
abbrev M3 : MethodName := ⟨Q3, "<init>", "()V"⟩
abbrev M4 : MethodName := ⟨Q17, "cat", "(Ljava/lang/String;C)Lcom/example/cluewright/cluewright/Category;"⟩
abbrev M5 : MethodName := ⟨Q10, "valueOf", "(C)Ljava/lang/String;"⟩
abbrev M6 : MethodName := ⟨"java/lang/StringLatin1", "canEncode", "(C)Z"⟩
abbrev M7 : MethodName := ⟨"java/lang/StringLatin1", "toBytes", "(C)[B"⟩
abbrev M8 : MethodName := ⟨Q10, "<init>", "([BB)V"⟩
abbrev M9 : MethodName := ⟨Q8, "add", "(Ljava/lang/Object;)Z"⟩
abbrev M10 : MethodName := ⟨Q8, "add", "(Ljava/lang/Object;[Ljava/lang/Object;I)V"⟩
abbrev M11 : MethodName := ⟨Q8, "grow", "()[Ljava/lang/Object;"⟩
abbrev M12 : MethodName := ⟨Q8, "grow", "(I)[Ljava/lang/Object;"⟩
abbrev M13 : MethodName := ⟨"java/lang/Math", "max", "(II)I"⟩
abbrev M14 : MethodName := ⟨Q11, "<init>", "(Ljava/lang/String;Ljava/util/List;)V"⟩
abbrev M15 : MethodName := ⟨"java/lang/Record", "<init>", "()V"⟩
abbrev M16 : MethodName := ⟨Q19, "copyOf", "(Ljava/util/Collection;)Ljava/util/List;"⟩
abbrev M17 : MethodName := ⟨Q18, "listCopy", "(Ljava/util/Collection;)Ljava/util/List;"⟩
abbrev M18 : MethodName := ⟨"java/util/Collection", "isEmpty", "()Z"⟩
abbrev M19 : MethodName := ⟨Q8, "isEmpty", "()Z"⟩
abbrev M20 : MethodName := ⟨"java/util/Collection", "toArray", "()[Ljava/lang/Object;"⟩
abbrev M21 : MethodName := ⟨Q8, "toArray", "()[Ljava/lang/Object;"⟩
abbrev M22 : MethodName := ⟨Q42, "copyOf", "([Ljava/lang/Object;I)[Ljava/lang/Object;"⟩
abbrev M23 : MethodName := ⟨Q3, "getClass", "()Ljava/lang/Class;"⟩
abbrev M24 : MethodName := ⟨Q42, "copyOf", "([Ljava/lang/Object;ILjava/lang/Class;)[Ljava/lang/Object;"⟩
abbrev M25 : MethodName := ⟨"java/lang/Math", "min", "(II)I"⟩
abbrev M26 : MethodName := ⟨"java/lang/System", "arraycopy", "(Ljava/lang/Object;ILjava/lang/Object;II)V"⟩
abbrev M27 : MethodName := ⟨Q19, "of", "([Ljava/lang/Object;)Ljava/util/List;"⟩
abbrev M28 : MethodName := ⟨Q18, "listFromArray", "([Ljava/lang/Object;)Ljava/util/List;"⟩
abbrev M29 : MethodName := ⟨"java/util/Objects", "requireNonNull", "(Ljava/lang/Object;)Ljava/lang/Object;"⟩
abbrev M30 : MethodName := ⟨Q13, "<init>", "([Ljava/lang/Object;Z)V"⟩
abbrev M31 : MethodName := ⟨Q23, "<init>", "()V"⟩
abbrev M32 : MethodName := ⟨Q45, "<init>", "()V"⟩
abbrev M33 : MethodName := ⟨Q19, "add", "(Ljava/lang/Object;)Z"⟩
abbrev M34 : MethodName := ⟨Q4, "<init>", "(Ljava/lang/String;Ljava/util/List;)V"⟩
abbrev M35 : MethodName := ⟨Q15, "<init>", "()V"⟩
abbrev M36 : MethodName := ⟨"java/util/AbstractMap", "<init>", "()V"⟩
abbrev M37 : MethodName := ⟨Q16, "<init>", "(Ljava/lang/Object;Ljava/lang/Object;)V"⟩
abbrev M38 : MethodName := ⟨Q19, "get", "(I)Ljava/lang/Object;"⟩
abbrev M39 : MethodName := ⟨Q8, "get", "(I)Ljava/lang/Object;"⟩
abbrev M40 : MethodName := ⟨"java/util/Objects", "checkIndex", "(II)I"⟩
abbrev M41 : MethodName := ⟨"jdk/internal/util/Preconditions", "checkIndex", "(IILjava/util/function/BiFunction;)I"⟩
abbrev M42 : MethodName := ⟨Q8, Q55, "(I)Ljava/lang/Object;"⟩
abbrev M43 : MethodName := ⟨Q11, Q32, "()Ljava/util/List;"⟩
abbrev M44 : MethodName := ⟨Q19, Q35, "()I"⟩
abbrev M45 : MethodName := ⟨Q13, Q35, "()I"⟩
abbrev M46 : MethodName := ⟨Q8, Q35, "()I"⟩
abbrev M47 : MethodName := ⟨Q19, "iterator", "()Ljava/util/Iterator;"⟩
abbrev M48 : MethodName := ⟨Q8, "iterator", "()Ljava/util/Iterator;"⟩
abbrev M49 : MethodName := ⟨Q14, "<init>", "(Ljava/util/ArrayList;)V"⟩
abbrev M50 : MethodName := ⟨Q47, "hasNext", "()Z"⟩
abbrev M51 : MethodName := ⟨Q14, "hasNext", "()Z"⟩
abbrev M52 : MethodName := ⟨Q47, "next", "()Ljava/lang/Object;"⟩
abbrev M53 : MethodName := ⟨Q14, "next", "()Ljava/lang/Object;"⟩
abbrev M54 : MethodName := ⟨Q14, "checkForComodification", "()V"⟩
abbrev M55 : MethodName := ⟨Q23, "iterator", "()Ljava/util/Iterator;"⟩
abbrev M56 : MethodName := ⟨Q23, Q35, "()I"⟩
abbrev M57 : MethodName := ⟨Q40, Q35, "()I"⟩
abbrev M58 : MethodName := ⟨Q9, "<init>", "(Ljava/util/List;I)V"⟩
abbrev M59 : MethodName := ⟨Q9, "hasNext", "()Z"⟩
abbrev M60 : MethodName := ⟨Q9, "next", "()Ljava/lang/Object;"⟩
abbrev M61 : MethodName := ⟨Q13, "get", "(I)Ljava/lang/Object;"⟩
abbrev M62 : MethodName := ⟨Q24, "valueOf", "(I)Ljava/lang/Integer;"⟩
abbrev M63 : MethodName := ⟨"java/util/Map", "put", "(Ljava/lang/Object;Ljava/lang/Object;)Ljava/lang/Object;"⟩
abbrev M64 : MethodName := ⟨Q15, "put", "(Ljava/lang/Object;Ljava/lang/Object;)Ljava/lang/Object;"⟩
abbrev M65 : MethodName := ⟨Q15, "hash", "(Ljava/lang/Object;)I"⟩
abbrev M66 : MethodName := ⟨Q3, "hashCode", "()I"⟩
abbrev M67 : MethodName := ⟨Q10, "hashCode", "()I"⟩
abbrev M68 : MethodName := ⟨Q10, "isLatin1", "()Z"⟩
abbrev M69 : MethodName := ⟨"java/lang/StringLatin1", "hashCode", "([B)I"⟩
abbrev M70 : MethodName := ⟨Q15, "putVal", "(ILjava/lang/Object;Ljava/lang/Object;ZZ)Ljava/lang/Object;"⟩
abbrev M71 : MethodName := ⟨Q15, "resize", "()[Ljava/util/HashMap$Node;"⟩
abbrev M72 : MethodName := ⟨Q15, "newNode", "(ILjava/lang/Object;Ljava/lang/Object;Ljava/util/HashMap$Node;)Ljava/util/HashMap$Node;"⟩
abbrev M73 : MethodName := ⟨Q6, "<init>", "(ILjava/lang/Object;Ljava/lang/Object;Ljava/util/HashMap$Node;)V"⟩
abbrev M74 : MethodName := ⟨Q15, "afterNodeInsertion", "(Z)V"⟩
abbrev M75 : MethodName := ⟨Q1, "<init>", "(Lcom/example/cluewright/cluewright/Puzzle;)V"⟩
abbrev M76 : MethodName := ⟨Q4, Q35, "()I"⟩
abbrev M77 : MethodName := ⟨Q4, "categoryCount", "()I"⟩
abbrev M78 : MethodName := ⟨Q16, Q35, "()I"⟩
abbrev M79 : MethodName := ⟨Q4, "elementCount", "()I"⟩
abbrev M80 : MethodName := ⟨Q4, "lineCount", "()I"⟩
abbrev M81 : MethodName := ⟨Q42, "fill", "([II)V"⟩
abbrev M82 : MethodName := ⟨Q42, "fill", "([JJ)V"⟩
abbrev M83 : MethodName := ⟨Q1, "filledFrom", "(IIZ)I"⟩
abbrev M84 : MethodName := ⟨Q1, "cell", "(II)I"⟩
abbrev M85 : MethodName := ⟨Q1, "fill", "(IIZLcom/example/cluewright/cluewright/Reason;Lcom/example/cluewright/cluewright/Clue;[I)V"⟩
abbrev M86 : MethodName := ⟨Q1, "fill", "(IIZLcom/example/cluewright/cluewright/Reason;Lcom/example/cluewright/cluewright/Clue;Lcom/example/cluewright/cluewright/Chain;[I)V"⟩
abbrev M87 : MethodName := ⟨Q1, "stepsOf", "([I)[I"⟩
abbrev M88 : MethodName := ⟨Q42, "sort", "([I)V"⟩
abbrev M89 : MethodName := ⟨Q51, "sort", "([IIII)V"⟩
abbrev M90 : MethodName := ⟨Q51, "sort", "(Ljava/util/DualPivotQuicksort$Sorter;[IIII)V"⟩
abbrev M91 : MethodName := ⟨Q51, "insertionSort", "([III)V"⟩
abbrev M92 : MethodName := ⟨Q5, "<init>", "(IIIZLcom/example/cluewright/cluewright/Reason;Lcom/example/cluewright/cluewright/Clue;[ILcom/example/cluewright/cluewright/Chain;)V"⟩
abbrev M93 : MethodName := ⟨Q5, "number", "()I"⟩
abbrev M94 : MethodName := ⟨Q1, "count", "(IIZ)V"⟩
abbrev M95 : MethodName := ⟨Q4, "category", "(I)I"⟩
abbrev M96 : MethodName := ⟨Q4, "line", "(II)I"⟩
abbrev M97 : MethodName := ⟨Q1, "tally", "(IIZ)V"⟩
abbrev M98 : MethodName := ⟨Q4, "position", "(I)I"⟩
abbrev M99 : MethodName := ⟨Q1, "checkParted", "(II)V"⟩
abbrev M100 : MethodName := ⟨Q1, "checkJoined", "(II)V"⟩
abbrev ζ (Z : State) : Nat := Z.heap.size
def Hyp (Z : State) (a0 : Array Value) : Prop := (∀ d ∈ tables_1, d.before a0 Z = true) ∧ narrow_1.value a0 Z none Z [] = some true ∧ Fit Z ∧ (∀ d ∈ jdkStatics_1, d.before a0 Z = true) ∧ (∃ (c : ClassId) (k : Class) (m : Addr), Z.vm.findClass Q7 = some c ∧ Z.vm.classes[c]? = some k ∧ k.mirror = some m)
abbrev el0 (Z : State) (a0 : Array Value) (j : Int32) : Addr := elOf (Jvm.Term.static Q0 Q12 Q2) Z a0 j
set_option maxRecDepth 65536
set_option maxHeartbeats 40000000
abbrev Dc (b : ByteArray) (n : Nat) (i : Instr) (k : Nat) : Prop := decode b n = .ok (i, k)
theorem pf {y : MethodName} (h : plainName y.cls = true) : plainFor y = true := plainFor_of_name h
section Facts
variable {Z : State} {a0 : Array Value}
abbrev B (Z : State) (a0 : Array Value) (d : Jvm.Cond) : Prop := d.before a0 Z = true
theorem tw (H : Hyp Z a0) (i : Nat) {d : Jvm.Cond} (h : tables_1[i]? = some d) : B Z a0 d := H.1 _ (List.mem_of_getElem? h)
theorem ts (H : Hyp Z a0) (i : Nat) {d : Jvm.Cond} (h : jdkStatics_1[i]? = some d) : B Z a0 d := H.2.2.2.1 _ (List.mem_of_getElem? h)
theorem w2 (H : Hyp Z a0) : B Z a0 (.instantiable Q8 3) := tw H 2 rfl
theorem w3 (H : Hyp Z a0) : B Z a0 (.initialized Q8) := tw H 3 rfl
theorem w20 (H : Hyp Z a0) : B Z a0 (.instanceMethod M3) := tw H 20 rfl
theorem w21 (H : Hyp Z a0) : B Z a0 (.code M3 object_method_1_code 1 none) := tw H 21 rfl
theorem w23 (H : Hyp Z a0) : B Z a0 (.lays Q8 Q26 Q43 "I") := tw H 23 rfl
theorem w25 (H : Hyp Z a0) : B Z a0 (.fieldLink Q8 9 Q8 Q55 Q7) := tw H 25 rfl
theorem w28 (H : Hyp Z a0) : B Z a0 (.initialized Q10) := tw H 28 rfl
theorem w29 (H : Hyp Z a0) : B Z a0 (.instantiable Q10 4) := tw H 29 rfl
theorem w30 (H : Hyp Z a0) : B Z a0 (.arrayClass .byte) := tw H 30 rfl
theorem w39 (H : Hyp Z a0) : B Z a0 (.methodLink Q17 10 M5) := tw H 39 rfl
theorem w40 (H : Hyp Z a0) : B Z a0 (.static M5) := tw H 40 rfl
theorem w41 (H : Hyp Z a0) : B Z a0 (.code M5 C20 1 (some (.object Q10))) := tw H 41 rfl
theorem w42 (H : Hyp Z a0) : B Z a0 (.fieldLink Q10 38 Q10 Q39 "Z") := tw H 42 rfl
theorem w43 (H : Hyp Z a0) : B Z a0 (.methodLink Q10 1015 M6) := tw H 43 rfl
theorem w44 (H : Hyp Z a0) : B Z a0 (.static M6) := tw H 44 rfl
theorem w45 (H : Hyp Z a0) : B Z a0 (.initialized "java/lang/StringLatin1") := tw H 45 rfl
theorem w46 (H : Hyp Z a0) : B Z a0 (.code M6 C41 1 (some .boolean)) := tw H 46 rfl
theorem w47 (H : Hyp Z a0) : B Z a0 (.classLink Q10 10 Q10) := tw H 47 rfl
theorem w48 (H : Hyp Z a0) : B Z a0 (.methodLink Q10 1018 M7) := tw H 48 rfl
theorem w49 (H : Hyp Z a0) : B Z a0 (.static M7) := tw H 49 rfl
theorem w50 (H : Hyp Z a0) : B Z a0 (.code M7 C35 1 (some (.array .byte))) := tw H 50 rfl
theorem w51 (H : Hyp Z a0) : B Z a0 (.methodLink Q10 209 M8) := tw H 51 rfl
theorem w52 (H : Hyp Z a0) : B Z a0 (.instanceMethod M8) := tw H 52 rfl
theorem w54 (H : Hyp Z a0) : B Z a0 (.code M8 C43 3 none) := tw H 54 rfl
theorem w56 (H : Hyp Z a0) : B Z a0 (.fieldLink Q10 9 Q10 Q49 "[B") := tw H 56 rfl
theorem w58 (H : Hyp Z a0) : B Z a0 (.methodLink Q17 16 M9) := tw H 58 rfl
theorem w59 (H : Hyp Z a0) : B Z a0 (.declares M9) := tw H 59 rfl
theorem w60 (H : Hyp Z a0) : B Z a0 (.instanceMethod M9) := tw H 60 rfl
theorem w61 (H : Hyp Z a0) : B Z a0 (.selects Q8 M9 M9) := tw H 61 rfl
theorem w62 (H : Hyp Z a0) : B Z a0 (.code M9 C16 2 (some .boolean)) := tw H 62 rfl
theorem w63 (H : Hyp Z a0) : B Z a0 (.fieldLink Q8 63 Q8 Q43 "I") := tw H 63 rfl
theorem w64 (H : Hyp Z a0) : B Z a0 (.sameField Q8 Q26 Q43 "I") := tw H 64 rfl
theorem w65 (H : Hyp Z a0) : B Z a0 (.fieldLink Q8 48 Q8 Q35 "I") := tw H 65 rfl
theorem w66 (H : Hyp Z a0) : B Z a0 (.lays Q8 Q8 Q35 "I") := tw H 66 rfl
theorem w67 (H : Hyp Z a0) : B Z a0 (.methodLink Q8 131 M10) := tw H 67 rfl
theorem w68 (H : Hyp Z a0) : B Z a0 (.instanceMethod M10) := tw H 68 rfl
theorem w69 (H : Hyp Z a0) : B Z a0 (.privateMethod M10) := tw H 69 rfl
theorem w70 (H : Hyp Z a0) : B Z a0 (.selects Q8 M10 M10) := tw H 70 rfl
theorem w71 (H : Hyp Z a0) : B Z a0 (.code M10 C15 4 none) := tw H 71 rfl
theorem w84 (H : Hyp Z a0) : B Z a0 (.initialized "java/lang/Math") := tw H 84 rfl
theorem w88 (H : Hyp Z a0) : B Z a0 (.castable Q10 Q3) := tw H 88 rfl
theorem w91 (H : Hyp Z a0) : B Z a0 (.initialized Q11) := tw H 91 rfl
theorem w107 (H : Hyp Z a0) : B Z a0 (.initialized Q18) := tw H 107 rfl
theorem w110 (H : Hyp Z a0) : B Z a0 (.superclass Q8 Q26) := tw H 110 rfl
theorem w113 (H : Hyp Z a0) : B Z a0 (.noSuperclass Q3) := tw H 113 rfl
theorem w134 (H : Hyp Z a0) : B Z a0 (.initialized Q42) := tw H 134 rfl
theorem w163 (H : Hyp Z a0) : B Z a0 (.initialized "java/util/Objects") := tw H 163 rfl
theorem w165 (H : Hyp Z a0) : B Z a0 (.instantiable Q13 2) := tw H 165 rfl
theorem w166 (H : Hyp Z a0) : B Z a0 (.initialized Q13) := tw H 166 rfl
theorem w199 (H : Hyp Z a0) : B Z a0 (.castable Q8 Q19) := tw H 199 rfl
theorem w203 (H : Hyp Z a0) : B Z a0 (.instantiable Q4 6) := tw H 203 rfl
theorem w204 (H : Hyp Z a0) : B Z a0 (.initialized Q4) := tw H 204 rfl
theorem w211 (H : Hyp Z a0) : B Z a0 (.instantiable Q15 8) := tw H 211 rfl
theorem w212 (H : Hyp Z a0) : B Z a0 (.initialized Q15) := tw H 212 rfl
theorem w226 (H : Hyp Z a0) : B Z a0 (.fieldLink Q4 10 Q4 Q32 Q52) := tw H 226 rfl
theorem w236 (H : Hyp Z a0) : B Z a0 (.instantiable Q16 2) := tw H 236 rfl
theorem w237 (H : Hyp Z a0) : B Z a0 (.initialized Q16) := tw H 237 rfl
theorem w278 (H : Hyp Z a0) : B Z a0 (.selects Q11 M43 M43) := tw H 278 rfl
theorem w280 (H : Hyp Z a0) : B Z a0 (.methodLink Q4 45 M44) := tw H 280 rfl
theorem w281 (H : Hyp Z a0) : B Z a0 (.declares M44) := tw H 281 rfl
theorem w282 (H : Hyp Z a0) : B Z a0 (.interfaceMethod "java/util/List" "java/util/List" "size" "()I") := tw H 282 rfl
theorem w287 (H : Hyp Z a0) : B Z a0 (.castable Q13 Q19) := tw H 287 rfl
theorem w296 (H : Hyp Z a0) : B Z a0 (.classLink Q4 52 Q10) := tw H 296 rfl
theorem w298 (H : Hyp Z a0) : B Z a0 (.fieldLink Q4 54 Q4 "labels" Q41) := tw H 298 rfl
theorem w309 (H : Hyp Z a0) : B Z a0 (.instantiable Q14 4) := tw H 309 rfl
theorem w310 (H : Hyp Z a0) : B Z a0 (.initialized Q14) := tw H 310 rfl
theorem w315 (H : Hyp Z a0) : B Z a0 (.fieldLink Q14 1 Q14 "this$0" Q48) := tw H 315 rfl
theorem w323 (H : Hyp Z a0) : B Z a0 (.methodLink Q4 62 M50) := tw H 323 rfl
theorem w324 (H : Hyp Z a0) : B Z a0 (.declares M50) := tw H 324 rfl
theorem w325 (H : Hyp Z a0) : B Z a0 (.interfaceMethod "java/util/Iterator" "java/util/Iterator" "hasNext" "()Z") := tw H 325 rfl
theorem w332 (H : Hyp Z a0) : B Z a0 (.fieldLink Q14 25 Q14 Q53 "I") := tw H 332 rfl
theorem w335 (H : Hyp Z a0) : B Z a0 (.methodLink Q4 68 M52) := tw H 335 rfl
theorem w336 (H : Hyp Z a0) : B Z a0 (.declares M52) := tw H 336 rfl
theorem w337 (H : Hyp Z a0) : B Z a0 (.interfaceMethod "java/util/Iterator" "java/util/Iterator" "next" "()Ljava/lang/Object;") := tw H 337 rfl
theorem w355 (H : Hyp Z a0) : B Z a0 (.instantiable Q9 4) := tw H 355 rfl
theorem w356 (H : Hyp Z a0) : B Z a0 (.initialized Q9) := tw H 356 rfl
theorem w370 (H : Hyp Z a0) : B Z a0 (.fieldLink Q9 17 Q9 Q53 "I") := tw H 370 rfl
theorem w371 (H : Hyp Z a0) : B Z a0 (.lays Q9 Q9 Q53 "I") := tw H 371 rfl
theorem w374 (H : Hyp Z a0) : B Z a0 (.selects Q9 M50 M59) := tw H 374 rfl
theorem w375 (H : Hyp Z a0) : B Z a0 (.instanceMethod M59) := tw H 375 rfl
theorem w376 (H : Hyp Z a0) : B Z a0 (.publicMethod M59) := tw H 376 rfl
theorem w377 (H : Hyp Z a0) : B Z a0 (.unhidden Q9 "hasNext" "()Z") := tw H 377 rfl
theorem w378 (H : Hyp Z a0) : B Z a0 (.castable Q9 Q47) := tw H 378 rfl
theorem w379 (H : Hyp Z a0) : B Z a0 (.code M59 C40 1 (some .boolean)) := tw H 379 rfl
theorem w380 (H : Hyp Z a0) : B Z a0 (.selects Q9 M52 M60) := tw H 380 rfl
theorem w381 (H : Hyp Z a0) : B Z a0 (.instanceMethod M60) := tw H 381 rfl
theorem w382 (H : Hyp Z a0) : B Z a0 (.publicMethod M60) := tw H 382 rfl
theorem w383 (H : Hyp Z a0) : B Z a0 (.unhidden Q9 "next" "()Ljava/lang/Object;") := tw H 383 rfl
theorem w384 (H : Hyp Z a0) : B Z a0 (.codeWith M60 C24 3 (some (.object Q3)) [(0, 24, 25, 30)]) := tw H 384 rfl
theorem w391 (H : Hyp Z a0) : B Z a0 (.methodLink Q4 72 M62) := tw H 391 rfl
theorem w392 (H : Hyp Z a0) : B Z a0 (.static M62) := tw H 392 rfl
theorem w393 (H : Hyp Z a0) : B Z a0 (.initialized Q24) := tw H 393 rfl
theorem w394 (H : Hyp Z a0) : B Z a0 (.code M62 C23 1 (some (.object Q24))) := tw H 394 rfl
theorem w395 (H : Hyp Z a0) : B Z a0 (.fieldLink Q24 191 Q0 "high" "I") := tw H 395 rfl
theorem w397 (H : Hyp Z a0) : B Z a0 (.fieldLink Q24 195 Q0 Q12 Q2) := tw H 397 rfl
theorem w398 (H : Hyp Z a0) : B Z a0 (.methodLink Q4 78 M63) := tw H 398 rfl
theorem w399 (H : Hyp Z a0) : B Z a0 (.declares M63) := tw H 399 rfl
theorem w400 (H : Hyp Z a0) : B Z a0 (.interfaceMethod "java/util/Map" "java/util/Map" "put" "(Ljava/lang/Object;Ljava/lang/Object;)Ljava/lang/Object;") := tw H 400 rfl
theorem w401 (H : Hyp Z a0) : B Z a0 (.selects Q15 M63 M64) := tw H 401 rfl
theorem w402 (H : Hyp Z a0) : B Z a0 (.instanceMethod M64) := tw H 402 rfl
theorem w403 (H : Hyp Z a0) : B Z a0 (.publicMethod M64) := tw H 403 rfl
theorem w404 (H : Hyp Z a0) : B Z a0 (.unhidden Q15 "put" "(Ljava/lang/Object;Ljava/lang/Object;)Ljava/lang/Object;") := tw H 404 rfl
theorem w405 (H : Hyp Z a0) : B Z a0 (.castable Q15 "java/util/Map") := tw H 405 rfl
theorem w406 (H : Hyp Z a0) : B Z a0 (.code M64 C32 3 (some (.object Q3))) := tw H 406 rfl
theorem w407 (H : Hyp Z a0) : B Z a0 (.methodLink Q15 149 M65) := tw H 407 rfl
theorem w408 (H : Hyp Z a0) : B Z a0 (.static M65) := tw H 408 rfl
theorem w409 (H : Hyp Z a0) : B Z a0 (.code M65 C27 2 (some .int)) := tw H 409 rfl
theorem w410 (H : Hyp Z a0) : B Z a0 (.methodLink Q15 1 M66) := tw H 410 rfl
theorem w411 (H : Hyp Z a0) : B Z a0 (.declares M66) := tw H 411 rfl
theorem w413 (H : Hyp Z a0) : B Z a0 (.selects Q10 M66 M67) := tw H 413 rfl
theorem w414 (H : Hyp Z a0) : B Z a0 (.instanceMethod M67) := tw H 414 rfl
theorem w415 (H : Hyp Z a0) : B Z a0 (.code M67 C8 2 (some .int)) := tw H 415 rfl
theorem w416 (H : Hyp Z a0) : B Z a0 (.fieldLink Q10 19 Q10 "hash" "I") := tw H 416 rfl
theorem w417 (H : Hyp Z a0) : B Z a0 (.lays Q10 Q10 "hash" "I") := tw H 417 rfl
theorem w418 (H : Hyp Z a0) : B Z a0 (.fieldLink Q10 23 Q10 "hashIsZero" "Z") := tw H 418 rfl
theorem w420 (H : Hyp Z a0) : B Z a0 (.methodLink Q10 492 M68) := tw H 420 rfl
theorem w421 (H : Hyp Z a0) : B Z a0 (.declares M68) := tw H 421 rfl
theorem w422 (H : Hyp Z a0) : B Z a0 (.instanceMethod M68) := tw H 422 rfl
theorem w423 (H : Hyp Z a0) : B Z a0 (.selects Q10 M68 M68) := tw H 423 rfl
theorem w424 (H : Hyp Z a0) : B Z a0 (.code M68 C48 1 (some .boolean)) := tw H 424 rfl
theorem w425 (H : Hyp Z a0) : B Z a0 (.methodLink Q10 628 M69) := tw H 425 rfl
theorem w426 (H : Hyp Z a0) : B Z a0 (.static M69) := tw H 426 rfl
theorem w427 (H : Hyp Z a0) : B Z a0 (.code M69 C28 1 (some .int)) := tw H 427 rfl
theorem w428 (H : Hyp Z a0) : B Z a0 (.methodLink Q15 152 M70) := tw H 428 rfl
theorem w429 (H : Hyp Z a0) : B Z a0 (.declares M70) := tw H 429 rfl
theorem w430 (H : Hyp Z a0) : B Z a0 (.instanceMethod M70) := tw H 430 rfl
theorem w431 (H : Hyp Z a0) : B Z a0 (.selects Q15 M70 M70) := tw H 431 rfl
theorem w432 (H : Hyp Z a0) : B Z a0 (.code M70 C3 13 (some (.object Q3))) := tw H 432 rfl
theorem w433 (H : Hyp Z a0) : B Z a0 (.fieldLink Q15 105 Q15 "table" Q25) := tw H 433 rfl
theorem w440 (H : Hyp Z a0) : B Z a0 (.fieldLink Q15 88 Q15 "threshold" "I") := tw H 440 rfl
theorem w442 (H : Hyp Z a0) : B Z a0 (.classLink Q15 163 Q6) := tw H 442 rfl
theorem w444 (H : Hyp Z a0) : B Z a0 (.methodLink Q15 186 M72) := tw H 444 rfl
theorem w445 (H : Hyp Z a0) : B Z a0 (.declares M72) := tw H 445 rfl
theorem w446 (H : Hyp Z a0) : B Z a0 (.instanceMethod M72) := tw H 446 rfl
theorem w447 (H : Hyp Z a0) : B Z a0 (.selects Q15 M72 M72) := tw H 447 rfl
theorem w448 (H : Hyp Z a0) : B Z a0 (.code M72 C36 5 (some (.object Q6))) := tw H 448 rfl
theorem w449 (H : Hyp Z a0) : B Z a0 (.instantiable Q6 4) := tw H 449 rfl
theorem w450 (H : Hyp Z a0) : B Z a0 (.initialized Q6) := tw H 450 rfl
theorem w451 (H : Hyp Z a0) : B Z a0 (.methodLink Q15 375 M73) := tw H 451 rfl
theorem w452 (H : Hyp Z a0) : B Z a0 (.instanceMethod M73) := tw H 452 rfl
theorem w454 (H : Hyp Z a0) : B Z a0 (.code M73 C18 5 none) := tw H 454 rfl
theorem w455 (H : Hyp Z a0) : B Z a0 (.methodLink Q6 1 M3) := tw H 455 rfl
theorem w456 (H : Hyp Z a0) : B Z a0 (.fieldLink Q6 7 Q6 "hash" "I") := tw H 456 rfl
theorem w457 (H : Hyp Z a0) : B Z a0 (.laysFinal Q6 Q6 "hash" "I") := tw H 457 rfl
theorem w458 (H : Hyp Z a0) : B Z a0 (.fieldLink Q6 13 Q6 "key" Q20) := tw H 458 rfl
theorem w459 (H : Hyp Z a0) : B Z a0 (.laysFinal Q6 Q6 "key" Q20) := tw H 459 rfl
theorem w460 (H : Hyp Z a0) : B Z a0 (.fieldLink Q6 17 Q6 Q49 Q20) := tw H 460 rfl
theorem w461 (H : Hyp Z a0) : B Z a0 (.lays Q6 Q6 Q49 Q20) := tw H 461 rfl
theorem w462 (H : Hyp Z a0) : B Z a0 (.fieldLink Q6 20 Q6 "next" Q44) := tw H 462 rfl
theorem w463 (H : Hyp Z a0) : B Z a0 (.lays Q6 Q6 "next" Q44) := tw H 463 rfl
theorem w464 (H : Hyp Z a0) : B Z a0 (.fieldLink Q15 202 Q15 Q43 "I") := tw H 464 rfl
theorem w465 (H : Hyp Z a0) : B Z a0 (.lays Q15 Q15 Q43 "I") := tw H 465 rfl
theorem w466 (H : Hyp Z a0) : B Z a0 (.fieldLink Q15 156 Q15 Q35 "I") := tw H 466 rfl
theorem w467 (H : Hyp Z a0) : B Z a0 (.lays Q15 Q15 Q35 "I") := tw H 467 rfl
theorem w468 (H : Hyp Z a0) : B Z a0 (.methodLink Q15 205 M74) := tw H 468 rfl
theorem w469 (H : Hyp Z a0) : B Z a0 (.declares M74) := tw H 469 rfl
theorem w470 (H : Hyp Z a0) : B Z a0 (.instanceMethod M74) := tw H 470 rfl
theorem w471 (H : Hyp Z a0) : B Z a0 (.selects Q15 M74 M74) := tw H 471 rfl
theorem w472 (H : Hyp Z a0) : B Z a0 (.code M74 jdk_69_method_52_code 2 none) := tw H 472 rfl
theorem w474 (H : Hyp Z a0) : B Z a0 (.instantiable Q1 12) := tw H 474 rfl
theorem w475 (H : Hyp Z a0) : B Z a0 (.initialized Q1) := tw H 475 rfl
theorem w482 (H : Hyp Z a0) : B Z a0 (.fieldLink Q1 12 Q1 "steps" Q21) := tw H 482 rfl
theorem w484 (H : Hyp Z a0) : B Z a0 (.fieldLink Q1 18 Q1 "puzzle" Q28) := tw H 484 rfl
theorem w505 (H : Hyp Z a0) : B Z a0 (.fieldLink Q1 34 Q1 Q46 "I") := tw H 505 rfl
theorem w512 (H : Hyp Z a0) : B Z a0 (.fieldLink Q1 40 Q1 Q32 "I") := tw H 512 rfl
theorem w514 (H : Hyp Z a0) : B Z a0 (.fieldLink Q1 43 Q1 "values" "[B") := tw H 514 rfl
theorem w516 (H : Hyp Z a0) : B Z a0 (.arrayClass .int) := tw H 516 rfl
theorem w524 (H : Hyp Z a0) : B Z a0 (.fieldLink Q1 54 Q1 "partner" "[I") := tw H 524 rfl
theorem w530 (H : Hyp Z a0) : B Z a0 (.fieldLink Q1 63 Q1 "open" "[J") := tw H 530 rfl
theorem w550 (H : Hyp Z a0) : B Z a0 (.selects Q1 M84 M84) := tw H 550 rfl
theorem w552 (H : Hyp Z a0) : B Z a0 (.methodLink Q17 49 M85) := tw H 552 rfl
theorem w553 (H : Hyp Z a0) : B Z a0 (.declares M85) := tw H 553 rfl
theorem w554 (H : Hyp Z a0) : B Z a0 (.instanceMethod M85) := tw H 554 rfl
theorem w555 (H : Hyp Z a0) : B Z a0 (.selects Q1 M85 M85) := tw H 555 rfl
theorem w556 (H : Hyp Z a0) : B Z a0 (.code M85 C37 7 none) := tw H 556 rfl
theorem w563 (H : Hyp Z a0) : B Z a0 (.instantiable Q5 8) := tw H 563 rfl
theorem w564 (H : Hyp Z a0) : B Z a0 (.initialized Q5) := tw H 564 rfl
theorem w611 (H : Hyp Z a0) : B Z a0 (.methodLink Q1 196 M94) := tw H 611 rfl
theorem w612 (H : Hyp Z a0) : B Z a0 (.instanceMethod M94) := tw H 612 rfl
theorem w613 (H : Hyp Z a0) : B Z a0 (.privateMethod M94) := tw H 613 rfl
theorem w614 (H : Hyp Z a0) : B Z a0 (.code M94 C4 6 none) := tw H 614 rfl
theorem w615 (H : Hyp Z a0) : B Z a0 (.methodLink Q1 109 M95) := tw H 615 rfl
theorem w616 (H : Hyp Z a0) : B Z a0 (.declares M95) := tw H 616 rfl
theorem w617 (H : Hyp Z a0) : B Z a0 (.instanceMethod M95) := tw H 617 rfl
theorem w618 (H : Hyp Z a0) : B Z a0 (.selects Q4 M95 M95) := tw H 618 rfl
theorem w619 (H : Hyp Z a0) : B Z a0 (.code M95 C65 2 (some .int)) := tw H 619 rfl
theorem w620 (H : Hyp Z a0) : B Z a0 (.methodLink Q1 123 M96) := tw H 620 rfl
theorem w621 (H : Hyp Z a0) : B Z a0 (.declares M96) := tw H 621 rfl
theorem w622 (H : Hyp Z a0) : B Z a0 (.instanceMethod M96) := tw H 622 rfl
theorem w623 (H : Hyp Z a0) : B Z a0 (.selects Q4 M96 M96) := tw H 623 rfl
theorem w624 (H : Hyp Z a0) : B Z a0 (.code M96 C44 3 (some .int)) := tw H 624 rfl
theorem w626 (H : Hyp Z a0) : B Z a0 (.instanceMethod M97) := tw H 626 rfl
theorem w627 (H : Hyp Z a0) : B Z a0 (.privateMethod M97) := tw H 627 rfl
theorem n4 (H : Hyp Z a0) : (Jvm.Cond.arrayOf (Jvm.Term.static Q8 Q34 Q7) (Jvm.ClassFile.FieldType.object Q3)).value a0 Z none Z [] = some true := Cond.before_iff.mp (ts H 3 rfl)
theorem n5 (H : Hyp Z a0) : (Jvm.Cond.exactly (Jvm.Term.static Q8 Q34 Q7) Q7).value a0 Z none Z [] = some true := Cond.before_iff.mp (ts H 4 rfl)
theorem n6 (H : Hyp Z a0) : (Jvm.Cond.eq (Jvm.Term.length (Jvm.Term.static Q8 Q34 Q7)) (Jvm.Term.int (0 : Int32))).value a0 Z none Z [] = some true := Cond.before_iff.mp (ts H 5 rfl)
theorem n7 (H : Hyp Z a0) : (Jvm.Cond.arrayOf (Jvm.Term.static Q8 Q22 Q7) (Jvm.ClassFile.FieldType.object Q3)).value a0 Z none Z [] = some true := Cond.before_iff.mp (ts H 6 rfl)
theorem n8 (H : Hyp Z a0) : (Jvm.Cond.exactly (Jvm.Term.static Q8 Q22 Q7) Q7).value a0 Z none Z [] = some true := Cond.before_iff.mp (ts H 7 rfl)
theorem n9 (H : Hyp Z a0) : (Jvm.Cond.eq (Jvm.Term.length (Jvm.Term.static Q8 Q22 Q7)) (Jvm.Term.int (0 : Int32))).value a0 Z none Z [] = some true := Cond.before_iff.mp (ts H 8 rfl)
theorem n11 (H : Hyp Z a0) : (Jvm.Cond.isInt (Jvm.Term.static Q10 Q39 "Z")).value a0 Z none Z [] = some true := Cond.before_iff.mp (ts H 10 rfl)
theorem n12 (H : Hyp Z a0) : (Jvm.Cond.not (Jvm.Cond.eq (Jvm.Term.static Q10 Q39 "Z") (Jvm.Term.int (0 : Int32)))).value a0 Z none Z [] = some true := Cond.before_iff.mp (ts H 11 rfl)
theorem n22 (H : Hyp Z a0) : (Jvm.Cond.eq (Jvm.Term.static Q0 "high" "I") (Jvm.Term.int (127 : Int32))).value a0 Z none Z [] = some true := Cond.before_iff.mp (ts H 21 rfl)
theorem n23 (H : Hyp Z a0) : (Jvm.Cond.arrayOf (Jvm.Term.static Q0 Q12 Q2) (Jvm.ClassFile.FieldType.object Q24)).value a0 Z none Z [] = some true := Cond.before_iff.mp (ts H 22 rfl)
theorem n24 (H : Hyp Z a0) : (Jvm.Cond.exactly (Jvm.Term.static Q0 Q12 Q2) Q2).value a0 Z none Z [] = some true := Cond.before_iff.mp (ts H 23 rfl)
theorem n25 (H : Hyp Z a0) : (Jvm.Cond.eq (Jvm.Term.length (Jvm.Term.static Q0 Q12 Q2)) (Jvm.Term.int (256 : Int32))).value a0 Z none Z [] = some true := Cond.before_iff.mp (ts H 24 rfl)
theorem n26 (H : Hyp Z a0) : (Jvm.Cond.all (Jvm.Term.static Q0 Q12 Q2) (Jvm.Cond.and (Jvm.Cond.exactly (Jvm.Term.elem (Jvm.Term.static Q0 Q12 Q2) (Jvm.Term.index (0 : Nat))) Q24) (Jvm.Cond.eq (Jvm.Term.field (Jvm.Term.elem (Jvm.Term.static Q0 Q12 Q2) (Jvm.Term.index (0 : Nat))) Q24 Q49 "I") (Jvm.Term.sub (Jvm.Term.index (0 : Nat)) (Jvm.Term.int (128 : Int32)))))).value a0 Z none Z [] = some true := Cond.before_iff.mp (ts H 25 rfl)
theorem n29 (H : Hyp Z a0) : (Jvm.Cond.exactly (Jvm.Term.static Q18 "EMPTY" Q20) Q3).value a0 Z none Z [] = some true := Cond.before_iff.mp (ts H 28 rfl)
theorem n32 (H : Hyp Z a0) : (Jvm.Cond.eq (Jvm.Term.static Q18 "$assertionsDisabled" "Z") (Jvm.Term.int (1 : Int32))).value a0 Z none Z [] = some true := Cond.before_iff.mp (ts H 31 rfl)
theorem n35 (H : Hyp Z a0) : (Jvm.Cond.exactly (Jvm.Term.static Q18 Q56 Q27) Q13).value a0 Z none Z [] = some true := Cond.before_iff.mp (ts H 34 rfl)
theorem mirM (H : Hyp Z a0) : MirA Z Q7 (mrOf Z Q7) := mrA H.2.2.2.2
def ad0 (Z : State) (a0 : Array Value) : Addr := adOf Q8 Q34 Q7 Z a0
theorem ev0 (H : Hyp Z a0) : (Jvm.Term.static Q8 Q34 Q7).eval a0 Z none [] Z = some (.ref (ad0 Z a0)) := own_ad (arr_v (n4 H))
theorem s0 (H : Hyp Z a0) : Sta Z Z.heap Q8 Q34 Q7 (.ref (ad0 Z a0)) := Sta.start (ev0 H) (Or.inr ⟨(w3 H), (ts H 0 rfl)⟩)
def ad1 (Z : State) (a0 : Array Value) : Addr := adOf Q8 Q22 Q7 Z a0
theorem ev1 (H : Hyp Z a0) : (Jvm.Term.static Q8 Q22 Q7).eval a0 Z none [] Z = some (.ref (ad1 Z a0)) := own_ad (arr_v (n7 H))
theorem s1 (H : Hyp Z a0) : Sta Z Z.heap Q8 Q22 Q7 (.ref (ad1 Z a0)) := Sta.start (ev1 H) (Or.inr ⟨(w3 H), (ts H 2 rfl)⟩)
def ad2 (Z : State) (a0 : Array Value) : Addr := adOf Q0 Q12 Q2 Z a0
theorem ev2 (H : Hyp Z a0) : (Jvm.Term.static Q0 Q12 Q2).eval a0 Z none [] Z = some (.ref (ad2 Z a0)) := own_ad (arr_v (n23 H))
theorem s2 (H : Hyp Z a0) : Sta Z Z.heap Q0 Q12 Q2 (.ref (ad2 Z a0)) := Sta.start (ev2 H) (Or.inr ⟨(tw H 396 rfl), (ts H 20 rfl)⟩)
def ad3 (Z : State) (a0 : Array Value) : Addr := adOf Q18 "EMPTY" Q20 Z a0
theorem ev3 (H : Hyp Z a0) : (Jvm.Term.static Q18 "EMPTY" Q20).eval a0 Z none [] Z = some (.ref (ad3 Z a0)) := own_ad (exa_v (n29 H))
theorem s3 (H : Hyp Z a0) : Sta Z Z.heap Q18 "EMPTY" Q20 (.ref (ad3 Z a0)) := Sta.start (ev3 H) (Or.inr ⟨(w107 H), (ts H 26 rfl)⟩)
def ad4 (Z : State) (a0 : Array Value) : Addr := adOf Q18 Q56 Q27 Z a0
theorem ev4 (H : Hyp Z a0) : (Jvm.Term.static Q18 Q56 Q27).eval a0 Z none [] Z = some (.ref (ad4 Z a0)) := own_ad (exa_v (n35 H))
theorem s4 (H : Hyp Z a0) : Sta Z Z.heap Q18 Q56 Q27 (.ref (ad4 Z a0)) := Sta.start (ev4 H) (Or.inr ⟨(w107 H), (ts H 32 rfl)⟩)
theorem x0 (H : Hyp Z a0) : Exa Z Z.heap (ad0 Z a0) Q7 := Exa.start (ev0 H) (n5 H)
theorem x1 (H : Hyp Z a0) : Exa Z Z.heap (ad1 Z a0) Q7 := Exa.start (ev1 H) (n8 H)
def iv0 (Z : State) (a0 : Array Value) : Int32 := match (Jvm.Term.static Q10 Q39 "Z").eval a0 Z none [] Z with | some (.int x) => x | _ => 0
theorem ive0 (H : Hyp Z a0) : (Jvm.Term.static Q10 Q39 "Z").eval a0 Z none [] Z = some (.int (iv0 Z a0)) := by obtain ⟨x, hx⟩ := is_v (n11 H); simp only [iv0, hx]
theorem ivs0 (H : Hyp Z a0) : Sta Z Z.heap Q10 Q39 "Z" (.int (iv0 Z a0)) := Sta.start (ive0 H) (Or.inl (ts H 9 rfl))
theorem si_high (H : Hyp Z a0) : Sta Z Z.heap "java/lang/Integer$IntegerCache" "high" "I" (.int (127 : Int32)) := Sta.start (own_eqint (n22 H)) (Or.inr ⟨(tw H 396 rfl), (ts H 18 rfl)⟩)
theorem x2 (H : Hyp Z a0) : Exa Z Z.heap (ad2 Z a0) Q2 := Exa.start (ev2 H) (n24 H)
theorem x3 (H : Hyp Z a0) : Exa Z Z.heap (ad3 Z a0) Q3 := Exa.start (ev3 H) (n29 H)
theorem si__assertionsDisabled (H : Hyp Z a0) : Sta Z Z.heap "java/util/ImmutableCollections" "$assertionsDisabled" "Z" (.int (1 : Int32)) := Sta.start (own_eqint (n32 H)) (Or.inr ⟨(w107 H), (ts H 29 rfl)⟩)
theorem x4 (H : Hyp Z a0) : Exa Z Z.heap (ad4 Z a0) Q13 := Exa.start (ev4 H) (n35 H)
theorem ivn0 (H : Hyp Z a0) : ¬ (iv0 Z a0 = (0 : Int32)) := gotF (Cond.eq_ints (ive0 H) rfl) (not_v (n12 H))
theorem v0 (H : Hyp Z a0) : Arv Z Z.heap (ad0 Z a0) (kaOf Z (ad0 Z a0)) (.object Q3) (0 : Int32) [] .null := own_arv H.2.2.1 (ev0 H) (n4 H) (n6 H) (by decide) rfl (fun cl hc => trivial)
theorem v1 (H : Hyp Z a0) : Arv Z Z.heap (ad1 Z a0) (kaOf Z (ad1 Z a0)) (.object Q3) (0 : Int32) [] .null := own_arv H.2.2.1 (ev1 H) (n7 H) (n9 H) (by decide) rfl (fun cl hc => trivial)
theorem tb2 (H : Hyp Z a0) (j : Int32) (hj : ¬ j < 0 ∧ j < (256 : Int32)) : ∃ cl, Arr Z Z.heap (ad2 Z a0) cl (.object Q24) ∧ ¬ (j < 0 ∨ cl.slots.size ≤ j.toNatClampNeg) ∧ cl.slots[j.toNatClampNeg]? = some (.ref (elOf (Jvm.Term.static Q0 Q12 Q2) Z a0 j)) := own_tab (n := (256 : Int32)) (ev2 H) (n23 H) (n25 H) (n26 H) rfl hj (by decide)
def Ω0 (Z : State) (h : Heap) (a : Addr) (v0 v1 v2 : Value) : Prop := Exa Z h a Q8 ∧ Fld Z h a Q26 Q43 "I" v0 ∧ Fld Z h a Q8 Q55 Q7 v1 ∧ Fld Z h a Q8 Q35 "I" v2
theorem Ω0.ext {h h' : Heap} {a : Addr} {v0 v1 v2 : Value} (F : Ω0 Z h a v0 v1 v2) (E : Ext h h') : Ω0 Z h' a v0 v1 v2 := ⟨F.1.ext E, F.2.1.ext E, F.2.2.1.ext E, F.2.2.2.ext E⟩
theorem Ω0.keep {h h' : Heap} {a : Addr} {v0 v1 v2 : Value} (F : Ω0 Z h a v0 v1 v2) {ws : List Addr} (K : Keep h h' ws) (q : a ∉ ws) : Ω0 Z h' a v0 v1 v2 := ⟨F.1.keep K, F.2.1.keep K q, F.2.2.1.keep K q, F.2.2.2.keep K q⟩
theorem Ω0.other {h h' : Heap} {a : Addr} {v0 v1 v2 : Value} (F : Ω0 Z h a v0 v1 v2) {b : Addr} {sl : Nat} {v : Value} (W : Wr h h' b sl v) (q : a ≠ b) : Ω0 Z h' a v0 v1 v2 := ⟨F.1.wr W, F.2.1.other W (Or.inl q), F.2.2.1.other W (Or.inl q), F.2.2.2.other W (Or.inl q)⟩
theorem Ω0.lt {h : Heap} {a : Addr} {v0 v1 v2 : Value} (F : Ω0 Z h a v0 v1 v2) : a < h.size := F.1.lt
theorem Ω0.new (H : Hyp Z a0) {h : Heap} {a : Addr} (A : Exa Z h a Q8) (D : ∀ {O nm d : String} {ty : FieldType}, Laid Z a0 Q8 O nm d → parseFieldDescriptor d = some ty → Fld Z h a O nm d (defaultValue ty)) : Ω0 Z h a (.int (0 : Int32)) .null (.int (0 : Int32)) := ⟨A, D (Or.inl (w23 H)) (ty := .int) (by decide), D (Or.inl (tw H 26 rfl)) (ty := (.array (.object Q3))) (by decide), D (Or.inl (w66 H)) (ty := .int) (by decide)⟩
theorem la0 (H : Hyp Z a0) : Lq Z a0 Q8 Q8 Q55 Q7 (.array (.object Q3)) := ⟨(Or.inl (tw H 26 rfl)), by decide⟩
theorem la1 (H : Hyp Z a0) : Lq Z a0 Q8 Q26 Q43 "I" .int := ⟨(Or.inl (w23 H)), by decide⟩
theorem la2 (H : Hyp Z a0) : Lq Z a0 Q8 Q8 Q35 "I" .int := ⟨(Or.inl (w66 H)), by decide⟩
theorem Ω0.s0 (H : Hyp Z a0) {h h' : Heap} {a : Addr} {v0 v1 v2 v : Value} (F : Ω0 Z h a v0 v1 v2) (W : Wr h h' a (Jvm.RoadKit.slotOf Z Q26 Q43 "I") v) : Ω0 Z h' a v v1 v2 := ⟨F.1.wr W, F.2.1.same W, fo F.2.2.1 W (la0 H) (la1 H) (by decide), fo F.2.2.2 W (la2 H) (la1 H) (by decide)⟩
theorem Ω0.s1 (H : Hyp Z a0) {h h' : Heap} {a : Addr} {v0 v1 v2 v : Value} (F : Ω0 Z h a v0 v1 v2) (W : Wr h h' a (Jvm.RoadKit.slotOf Z Q8 Q55 Q7) v) : Ω0 Z h' a v0 v v2 := ⟨F.1.wr W, fo F.2.1 W (la1 H) (la0 H) (by decide), F.2.2.1.same W, fo F.2.2.2 W (la2 H) (la0 H) (by decide)⟩
def Ω1 (Z : State) (h : Heap) (a : Addr) (v0 v1 v2 v3 : Value) : Prop := Exa Z h a Q10 ∧ Fld Z h a Q10 Q49 "[B" v0 ∧ Fld Z h a Q10 "coder" "B" v1 ∧ Fld Z h a Q10 "hash" "I" v2 ∧ Fld Z h a Q10 "hashIsZero" "Z" v3
theorem Ω1.ext {h h' : Heap} {a : Addr} {v0 v1 v2 v3 : Value} (F : Ω1 Z h a v0 v1 v2 v3) (E : Ext h h') : Ω1 Z h' a v0 v1 v2 v3 := ⟨F.1.ext E, F.2.1.ext E, F.2.2.1.ext E, F.2.2.2.1.ext E, F.2.2.2.2.ext E⟩
theorem Ω1.keep {h h' : Heap} {a : Addr} {v0 v1 v2 v3 : Value} (F : Ω1 Z h a v0 v1 v2 v3) {ws : List Addr} (K : Keep h h' ws) (q : a ∉ ws) : Ω1 Z h' a v0 v1 v2 v3 := ⟨F.1.keep K, F.2.1.keep K q, F.2.2.1.keep K q, F.2.2.2.1.keep K q, F.2.2.2.2.keep K q⟩
theorem Ω1.other {h h' : Heap} {a : Addr} {v0 v1 v2 v3 : Value} (F : Ω1 Z h a v0 v1 v2 v3) {b : Addr} {sl : Nat} {v : Value} (W : Wr h h' b sl v) (q : a ≠ b) : Ω1 Z h' a v0 v1 v2 v3 := ⟨F.1.wr W, F.2.1.other W (Or.inl q), F.2.2.1.other W (Or.inl q), F.2.2.2.1.other W (Or.inl q), F.2.2.2.2.other W (Or.inl q)⟩
theorem Ω1.lt {h : Heap} {a : Addr} {v0 v1 v2 v3 : Value} (F : Ω1 Z h a v0 v1 v2 v3) : a < h.size := F.1.lt
theorem Ω1.new (H : Hyp Z a0) {h : Heap} {a : Addr} (A : Exa Z h a Q10) (D : ∀ {O nm d : String} {ty : FieldType}, Laid Z a0 Q10 O nm d → parseFieldDescriptor d = some ty → Fld Z h a O nm d (defaultValue ty)) : Ω1 Z h a .null (.int (0 : Int32)) (.int (0 : Int32)) (.int (0 : Int32)) := ⟨A, D (Or.inr (tw H 31 rfl)) (ty := (.array .byte)) (by decide), D (Or.inr (tw H 32 rfl)) (ty := .byte) (by decide), D (Or.inl (w417 H)) (ty := .int) (by decide), D (Or.inl (tw H 419 rfl)) (ty := .boolean) (by decide)⟩
theorem la3 (H : Hyp Z a0) : Lq Z a0 Q10 Q10 "coder" "B" .byte := ⟨(Or.inr (tw H 32 rfl)), by decide⟩
theorem la4 (H : Hyp Z a0) : Lq Z a0 Q10 Q10 Q49 "[B" (.array .byte) := ⟨(Or.inr (tw H 31 rfl)), by decide⟩
theorem la5 (H : Hyp Z a0) : Lq Z a0 Q10 Q10 "hash" "I" .int := ⟨(Or.inl (w417 H)), by decide⟩
theorem la6 (H : Hyp Z a0) : Lq Z a0 Q10 Q10 "hashIsZero" "Z" .boolean := ⟨(Or.inl (tw H 419 rfl)), by decide⟩
theorem Ω1.s0 (H : Hyp Z a0) {h h' : Heap} {a : Addr} {v0 v1 v2 v3 v : Value} (F : Ω1 Z h a v0 v1 v2 v3) (W : Wr h h' a (Jvm.RoadKit.slotOf Z Q10 Q49 "[B") v) : Ω1 Z h' a v v1 v2 v3 := ⟨F.1.wr W, F.2.1.same W, fo F.2.2.1 W (la3 H) (la4 H) (by decide), fo F.2.2.2.1 W (la5 H) (la4 H) (by decide), fo F.2.2.2.2 W (la6 H) (la4 H) (by decide)⟩
theorem Ω1.s1 (H : Hyp Z a0) {h h' : Heap} {a : Addr} {v0 v1 v2 v3 v : Value} (F : Ω1 Z h a v0 v1 v2 v3) (W : Wr h h' a (Jvm.RoadKit.slotOf Z Q10 "coder" "B") v) : Ω1 Z h' a v0 v v2 v3 := ⟨F.1.wr W, fo F.2.1 W (la4 H) (la3 H) (by decide), F.2.2.1.same W, fo F.2.2.2.1 W (la5 H) (la3 H) (by decide), fo F.2.2.2.2 W (la6 H) (la3 H) (by decide)⟩
theorem Ω0.s2 (H : Hyp Z a0) {h h' : Heap} {a : Addr} {v0 v1 v2 v : Value} (F : Ω0 Z h a v0 v1 v2) (W : Wr h h' a (Jvm.RoadKit.slotOf Z Q8 Q35 "I") v) : Ω0 Z h' a v0 v1 v := ⟨F.1.wr W, fo F.2.1 W (la1 H) (la2 H) (by decide), fo F.2.2.1 W (la0 H) (la2 H) (by decide), F.2.2.2.same W⟩
def Ω2 (Z : State) (h : Heap) (a : Addr) (v0 v1 : Value) : Prop := Exa Z h a Q11 ∧ Fld Z h a Q11 "name" Q33 v0 ∧ Fld Z h a Q11 Q32 Q21 v1
theorem Ω2.ext {h h' : Heap} {a : Addr} {v0 v1 : Value} (F : Ω2 Z h a v0 v1) (E : Ext h h') : Ω2 Z h' a v0 v1 := ⟨F.1.ext E, F.2.1.ext E, F.2.2.ext E⟩
theorem Ω2.keep {h h' : Heap} {a : Addr} {v0 v1 : Value} (F : Ω2 Z h a v0 v1) {ws : List Addr} (K : Keep h h' ws) (q : a ∉ ws) : Ω2 Z h' a v0 v1 := ⟨F.1.keep K, F.2.1.keep K q, F.2.2.keep K q⟩
theorem Ω2.other {h h' : Heap} {a : Addr} {v0 v1 : Value} (F : Ω2 Z h a v0 v1) {b : Addr} {sl : Nat} {v : Value} (W : Wr h h' b sl v) (q : a ≠ b) : Ω2 Z h' a v0 v1 := ⟨F.1.wr W, F.2.1.other W (Or.inl q), F.2.2.other W (Or.inl q)⟩
theorem Ω2.lt {h : Heap} {a : Addr} {v0 v1 : Value} (F : Ω2 Z h a v0 v1) : a < h.size := F.1.lt
theorem Ω2.new (H : Hyp Z a0) {h : Heap} {a : Addr} (A : Exa Z h a Q11) (D : ∀ {O nm d : String} {ty : FieldType}, Laid Z a0 Q11 O nm d → parseFieldDescriptor d = some ty → Fld Z h a O nm d (defaultValue ty)) : Ω2 Z h a .null .null := ⟨A, D (Or.inr (tw H 190 rfl)) (ty := (.object Q10)) (by decide), D (Or.inr (tw H 192 rfl)) (ty := (.object Q19)) (by decide)⟩
def Ω3 (Z : State) (h : Heap) (a : Addr) (v0 v1 : Value) : Prop := Exa Z h a Q13 ∧ Fld Z h a Q13 Q32 Q7 v0 ∧ Fld Z h a Q13 "allowNulls" "Z" v1
theorem Ω3.ext {h h' : Heap} {a : Addr} {v0 v1 : Value} (F : Ω3 Z h a v0 v1) (E : Ext h h') : Ω3 Z h' a v0 v1 := ⟨F.1.ext E, F.2.1.ext E, F.2.2.ext E⟩
theorem Ω3.keep {h h' : Heap} {a : Addr} {v0 v1 : Value} (F : Ω3 Z h a v0 v1) {ws : List Addr} (K : Keep h h' ws) (q : a ∉ ws) : Ω3 Z h' a v0 v1 := ⟨F.1.keep K, F.2.1.keep K q, F.2.2.keep K q⟩
theorem Ω3.other {h h' : Heap} {a : Addr} {v0 v1 : Value} (F : Ω3 Z h a v0 v1) {b : Addr} {sl : Nat} {v : Value} (W : Wr h h' b sl v) (q : a ≠ b) : Ω3 Z h' a v0 v1 := ⟨F.1.wr W, F.2.1.other W (Or.inl q), F.2.2.other W (Or.inl q)⟩
theorem Ω3.lt {h : Heap} {a : Addr} {v0 v1 : Value} (F : Ω3 Z h a v0 v1) : a < h.size := F.1.lt
theorem Ω3.new (H : Hyp Z a0) {h : Heap} {a : Addr} (A : Exa Z h a Q13) (D : ∀ {O nm d : String} {ty : FieldType}, Laid Z a0 Q13 O nm d → parseFieldDescriptor d = some ty → Fld Z h a O nm d (defaultValue ty)) : Ω3 Z h a .null (.int (0 : Int32)) := ⟨A, D (Or.inr (tw H 186 rfl)) (ty := (.array (.object Q3))) (by decide), D (Or.inr (tw H 188 rfl)) (ty := .boolean) (by decide)⟩
theorem la7 (H : Hyp Z a0) : Lq Z a0 Q13 Q13 "allowNulls" "Z" .boolean := ⟨(Or.inr (tw H 188 rfl)), by decide⟩
theorem la8 (H : Hyp Z a0) : Lq Z a0 Q13 Q13 Q32 Q7 (.array (.object Q3)) := ⟨(Or.inr (tw H 186 rfl)), by decide⟩
theorem Ω3.s0 (H : Hyp Z a0) {h h' : Heap} {a : Addr} {v0 v1 v : Value} (F : Ω3 Z h a v0 v1) (W : Wr h h' a (Jvm.RoadKit.slotOf Z Q13 Q32 Q7) v) : Ω3 Z h' a v v1 := ⟨F.1.wr W, F.2.1.same W, fo F.2.2 W (la7 H) (la8 H) (by decide)⟩
theorem Ω3.s1 (H : Hyp Z a0) {h h' : Heap} {a : Addr} {v0 v1 v : Value} (F : Ω3 Z h a v0 v1) (W : Wr h h' a (Jvm.RoadKit.slotOf Z Q13 "allowNulls" "Z") v) : Ω3 Z h' a v0 v := ⟨F.1.wr W, fo F.2.1 W (la8 H) (la7 H) (by decide), F.2.2.same W⟩
theorem la9 (H : Hyp Z a0) : Lq Z a0 Q11 Q11 Q32 Q21 (.object Q19) := ⟨(Or.inr (tw H 192 rfl)), by decide⟩
theorem la10 (H : Hyp Z a0) : Lq Z a0 Q11 Q11 "name" Q33 (.object Q10) := ⟨(Or.inr (tw H 190 rfl)), by decide⟩
theorem Ω2.s0 (H : Hyp Z a0) {h h' : Heap} {a : Addr} {v0 v1 v : Value} (F : Ω2 Z h a v0 v1) (W : Wr h h' a (Jvm.RoadKit.slotOf Z Q11 "name" Q33) v) : Ω2 Z h' a v v1 := ⟨F.1.wr W, F.2.1.same W, fo F.2.2 W (la9 H) (la10 H) (by decide)⟩
theorem Ω2.s1 (H : Hyp Z a0) {h h' : Heap} {a : Addr} {v0 v1 v : Value} (F : Ω2 Z h a v0 v1) (W : Wr h h' a (Jvm.RoadKit.slotOf Z Q11 Q32 Q21) v) : Ω2 Z h' a v0 v := ⟨F.1.wr W, fo F.2.1 W (la10 H) (la9 H) (by decide), F.2.2.same W⟩
def Ω4 (Z : State) (h : Heap) (a : Addr) (v0 v1 v2 v3 v4 v5 : Value) : Prop := Exa Z h a Q4 ∧ Fld Z h a Q4 Q32 Q52 v0 ∧ Fld Z h a Q4 "clues" Q21 v1 ∧ Fld Z h a Q4 "id" Q33 v2 ∧ Fld Z h a Q4 Q46 Q21 v3 ∧ Fld Z h a Q4 Q35 "I" v4 ∧ Fld Z h a Q4 "labels" Q41 v5
theorem Ω4.ext {h h' : Heap} {a : Addr} {v0 v1 v2 v3 v4 v5 : Value} (F : Ω4 Z h a v0 v1 v2 v3 v4 v5) (E : Ext h h') : Ω4 Z h' a v0 v1 v2 v3 v4 v5 := ⟨F.1.ext E, F.2.1.ext E, F.2.2.1.ext E, F.2.2.2.1.ext E, F.2.2.2.2.1.ext E, F.2.2.2.2.2.1.ext E, F.2.2.2.2.2.2.ext E⟩
theorem Ω4.keep {h h' : Heap} {a : Addr} {v0 v1 v2 v3 v4 v5 : Value} (F : Ω4 Z h a v0 v1 v2 v3 v4 v5) {ws : List Addr} (K : Keep h h' ws) (q : a ∉ ws) : Ω4 Z h' a v0 v1 v2 v3 v4 v5 := ⟨F.1.keep K, F.2.1.keep K q, F.2.2.1.keep K q, F.2.2.2.1.keep K q, F.2.2.2.2.1.keep K q, F.2.2.2.2.2.1.keep K q, F.2.2.2.2.2.2.keep K q⟩
theorem Ω4.other {h h' : Heap} {a : Addr} {v0 v1 v2 v3 v4 v5 : Value} (F : Ω4 Z h a v0 v1 v2 v3 v4 v5) {b : Addr} {sl : Nat} {v : Value} (W : Wr h h' b sl v) (q : a ≠ b) : Ω4 Z h' a v0 v1 v2 v3 v4 v5 := ⟨F.1.wr W, F.2.1.other W (Or.inl q), F.2.2.1.other W (Or.inl q), F.2.2.2.1.other W (Or.inl q), F.2.2.2.2.1.other W (Or.inl q), F.2.2.2.2.2.1.other W (Or.inl q), F.2.2.2.2.2.2.other W (Or.inl q)⟩
theorem Ω4.lt {h : Heap} {a : Addr} {v0 v1 v2 v3 v4 v5 : Value} (F : Ω4 Z h a v0 v1 v2 v3 v4 v5) : a < h.size := F.1.lt
theorem Ω4.new (H : Hyp Z a0) {h : Heap} {a : Addr} (A : Exa Z h a Q4) (D : ∀ {O nm d : String} {ty : FieldType}, Laid Z a0 Q4 O nm d → parseFieldDescriptor d = some ty → Fld Z h a O nm d (defaultValue ty)) : Ω4 Z h a .null .null .null .null (.int (0 : Int32)) .null := ⟨A, D (Or.inr (tw H 227 rfl)) (ty := (.object "java/util/Map")) (by decide), D (Or.inr (tw H 231 rfl)) (ty := (.object Q19)) (by decide), D (Or.inr (tw H 233 rfl)) (ty := (.object Q10)) (by decide), D (Or.inr (tw H 252 rfl)) (ty := (.object Q19)) (by decide), D (Or.inr (tw H 290 rfl)) (ty := .int) (by decide), D (Or.inr (tw H 299 rfl)) (ty := (.array (.object Q10))) (by decide)⟩
def Ω5 (Z : State) (h : Heap) (a : Addr) (v0 v1 v2 v3 v4 : Value) : Prop := Exa Z h a Q15 ∧ Fld Z h a Q15 "loadFactor" "F" v0 ∧ Fld Z h a Q15 "table" Q25 v1 ∧ Fld Z h a Q15 "threshold" "I" v2 ∧ Fld Z h a Q15 Q43 "I" v3 ∧ Fld Z h a Q15 Q35 "I" v4
theorem Ω5.ext {h h' : Heap} {a : Addr} {v0 v1 v2 v3 v4 : Value} (F : Ω5 Z h a v0 v1 v2 v3 v4) (E : Ext h h') : Ω5 Z h' a v0 v1 v2 v3 v4 := ⟨F.1.ext E, F.2.1.ext E, F.2.2.1.ext E, F.2.2.2.1.ext E, F.2.2.2.2.1.ext E, F.2.2.2.2.2.ext E⟩
theorem Ω5.keep {h h' : Heap} {a : Addr} {v0 v1 v2 v3 v4 : Value} (F : Ω5 Z h a v0 v1 v2 v3 v4) {ws : List Addr} (K : Keep h h' ws) (q : a ∉ ws) : Ω5 Z h' a v0 v1 v2 v3 v4 := ⟨F.1.keep K, F.2.1.keep K q, F.2.2.1.keep K q, F.2.2.2.1.keep K q, F.2.2.2.2.1.keep K q, F.2.2.2.2.2.keep K q⟩
theorem Ω5.other {h h' : Heap} {a : Addr} {v0 v1 v2 v3 v4 : Value} (F : Ω5 Z h a v0 v1 v2 v3 v4) {b : Addr} {sl : Nat} {v : Value} (W : Wr h h' b sl v) (q : a ≠ b) : Ω5 Z h' a v0 v1 v2 v3 v4 := ⟨F.1.wr W, F.2.1.other W (Or.inl q), F.2.2.1.other W (Or.inl q), F.2.2.2.1.other W (Or.inl q), F.2.2.2.2.1.other W (Or.inl q), F.2.2.2.2.2.other W (Or.inl q)⟩
theorem Ω5.lt {h : Heap} {a : Addr} {v0 v1 v2 v3 v4 : Value} (F : Ω5 Z h a v0 v1 v2 v3 v4) : a < h.size := F.1.lt
theorem Ω5.new (H : Hyp Z a0) {h : Heap} {a : Addr} (A : Exa Z h a Q15) (D : ∀ {O nm d : String} {ty : FieldType}, Laid Z a0 Q15 O nm d → parseFieldDescriptor d = some ty → Fld Z h a O nm d (defaultValue ty)) : Ω5 Z h a (.float (0 : UInt32)) .null (.int (0 : Int32)) (.int (0 : Int32)) (.int (0 : Int32)) := ⟨A, D (Or.inr (tw H 225 rfl)) (ty := .float) (by decide), D (Or.inl (tw H 434 rfl)) (ty := (.array (.object Q6))) (by decide), D (Or.inl (tw H 441 rfl)) (ty := .int) (by decide), D (Or.inl (w465 H)) (ty := .int) (by decide), D (Or.inl (w467 H)) (ty := .int) (by decide)⟩
theorem la11 (H : Hyp Z a0) : Lq Z a0 Q15 Q15 "table" Q25 (.array (.object Q6)) := ⟨(Or.inl (tw H 434 rfl)), by decide⟩
theorem la12 (H : Hyp Z a0) : Lq Z a0 Q15 Q15 "loadFactor" "F" .float := ⟨(Or.inr (tw H 225 rfl)), by decide⟩
theorem la13 (H : Hyp Z a0) : Lq Z a0 Q15 Q15 "threshold" "I" .int := ⟨(Or.inl (tw H 441 rfl)), by decide⟩
theorem la14 (H : Hyp Z a0) : Lq Z a0 Q15 Q15 Q43 "I" .int := ⟨(Or.inl (w465 H)), by decide⟩
theorem la15 (H : Hyp Z a0) : Lq Z a0 Q15 Q15 Q35 "I" .int := ⟨(Or.inl (w467 H)), by decide⟩
theorem Ω5.s0 (H : Hyp Z a0) {h h' : Heap} {a : Addr} {v0 v1 v2 v3 v4 v : Value} (F : Ω5 Z h a v0 v1 v2 v3 v4) (W : Wr h h' a (Jvm.RoadKit.slotOf Z Q15 "loadFactor" "F") v) : Ω5 Z h' a v v1 v2 v3 v4 := ⟨F.1.wr W, F.2.1.same W, fo F.2.2.1 W (la11 H) (la12 H) (by decide), fo F.2.2.2.1 W (la13 H) (la12 H) (by decide), fo F.2.2.2.2.1 W (la14 H) (la12 H) (by decide), fo F.2.2.2.2.2 W (la15 H) (la12 H) (by decide)⟩
theorem la16 (H : Hyp Z a0) : Lq Z a0 Q4 Q4 "clues" Q21 (.object Q19) := ⟨(Or.inr (tw H 231 rfl)), by decide⟩
theorem la17 (H : Hyp Z a0) : Lq Z a0 Q4 Q4 Q32 Q52 (.object "java/util/Map") := ⟨(Or.inr (tw H 227 rfl)), by decide⟩
theorem la18 (H : Hyp Z a0) : Lq Z a0 Q4 Q4 "id" Q33 (.object Q10) := ⟨(Or.inr (tw H 233 rfl)), by decide⟩
theorem la19 (H : Hyp Z a0) : Lq Z a0 Q4 Q4 Q46 Q21 (.object Q19) := ⟨(Or.inr (tw H 252 rfl)), by decide⟩
theorem la20 (H : Hyp Z a0) : Lq Z a0 Q4 Q4 Q35 "I" .int := ⟨(Or.inr (tw H 290 rfl)), by decide⟩
theorem la21 (H : Hyp Z a0) : Lq Z a0 Q4 Q4 "labels" Q41 (.array (.object Q10)) := ⟨(Or.inr (tw H 299 rfl)), by decide⟩
theorem Ω4.s0 (H : Hyp Z a0) {h h' : Heap} {a : Addr} {v0 v1 v2 v3 v4 v5 v : Value} (F : Ω4 Z h a v0 v1 v2 v3 v4 v5) (W : Wr h h' a (Jvm.RoadKit.slotOf Z Q4 Q32 Q52) v) : Ω4 Z h' a v v1 v2 v3 v4 v5 := ⟨F.1.wr W, F.2.1.same W, fo F.2.2.1 W (la16 H) (la17 H) (by decide), fo F.2.2.2.1 W (la18 H) (la17 H) (by decide), fo F.2.2.2.2.1 W (la19 H) (la17 H) (by decide), fo F.2.2.2.2.2.1 W (la20 H) (la17 H) (by decide), fo F.2.2.2.2.2.2 W (la21 H) (la17 H) (by decide)⟩
theorem Ω4.s1 (H : Hyp Z a0) {h h' : Heap} {a : Addr} {v0 v1 v2 v3 v4 v5 v : Value} (F : Ω4 Z h a v0 v1 v2 v3 v4 v5) (W : Wr h h' a (Jvm.RoadKit.slotOf Z Q4 "clues" Q21) v) : Ω4 Z h' a v0 v v2 v3 v4 v5 := ⟨F.1.wr W, fo F.2.1 W (la17 H) (la16 H) (by decide), F.2.2.1.same W, fo F.2.2.2.1 W (la18 H) (la16 H) (by decide), fo F.2.2.2.2.1 W (la19 H) (la16 H) (by decide), fo F.2.2.2.2.2.1 W (la20 H) (la16 H) (by decide), fo F.2.2.2.2.2.2 W (la21 H) (la16 H) (by decide)⟩
theorem Ω4.s2 (H : Hyp Z a0) {h h' : Heap} {a : Addr} {v0 v1 v2 v3 v4 v5 v : Value} (F : Ω4 Z h a v0 v1 v2 v3 v4 v5) (W : Wr h h' a (Jvm.RoadKit.slotOf Z Q4 "id" Q33) v) : Ω4 Z h' a v0 v1 v v3 v4 v5 := ⟨F.1.wr W, fo F.2.1 W (la17 H) (la18 H) (by decide), fo F.2.2.1 W (la16 H) (la18 H) (by decide), F.2.2.2.1.same W, fo F.2.2.2.2.1 W (la19 H) (la18 H) (by decide), fo F.2.2.2.2.2.1 W (la20 H) (la18 H) (by decide), fo F.2.2.2.2.2.2 W (la21 H) (la18 H) (by decide)⟩
def Ω6 (Z : State) (h : Heap) (a : Addr) (v0 v1 : Value) : Prop := Exa Z h a Q16 ∧ Fld Z h a Q16 "e0" Q20 v0 ∧ Fld Z h a Q16 "e1" Q20 v1
theorem Ω6.ext {h h' : Heap} {a : Addr} {v0 v1 : Value} (F : Ω6 Z h a v0 v1) (E : Ext h h') : Ω6 Z h' a v0 v1 := ⟨F.1.ext E, F.2.1.ext E, F.2.2.ext E⟩
theorem Ω6.keep {h h' : Heap} {a : Addr} {v0 v1 : Value} (F : Ω6 Z h a v0 v1) {ws : List Addr} (K : Keep h h' ws) (q : a ∉ ws) : Ω6 Z h' a v0 v1 := ⟨F.1.keep K, F.2.1.keep K q, F.2.2.keep K q⟩
theorem Ω6.other {h h' : Heap} {a : Addr} {v0 v1 : Value} (F : Ω6 Z h a v0 v1) {b : Addr} {sl : Nat} {v : Value} (W : Wr h h' b sl v) (q : a ≠ b) : Ω6 Z h' a v0 v1 := ⟨F.1.wr W, F.2.1.other W (Or.inl q), F.2.2.other W (Or.inl q)⟩
theorem Ω6.lt {h : Heap} {a : Addr} {v0 v1 : Value} (F : Ω6 Z h a v0 v1) : a < h.size := F.1.lt
theorem Ω6.new (H : Hyp Z a0) {h : Heap} {a : Addr} (A : Exa Z h a Q16) (D : ∀ {O nm d : String} {ty : FieldType}, Laid Z a0 Q16 O nm d → parseFieldDescriptor d = some ty → Fld Z h a O nm d (defaultValue ty)) : Ω6 Z h a .null .null := ⟨A, D (Or.inr (tw H 248 rfl)) (ty := (.object Q3)) (by decide), D (Or.inr (tw H 250 rfl)) (ty := (.object Q3)) (by decide)⟩
theorem la22 (H : Hyp Z a0) : Lq Z a0 Q16 Q16 "e1" Q20 (.object Q3) := ⟨(Or.inr (tw H 250 rfl)), by decide⟩
theorem la23 (H : Hyp Z a0) : Lq Z a0 Q16 Q16 "e0" Q20 (.object Q3) := ⟨(Or.inr (tw H 248 rfl)), by decide⟩
theorem Ω6.s0 (H : Hyp Z a0) {h h' : Heap} {a : Addr} {v0 v1 v : Value} (F : Ω6 Z h a v0 v1) (W : Wr h h' a (Jvm.RoadKit.slotOf Z Q16 "e0" Q20) v) : Ω6 Z h' a v v1 := ⟨F.1.wr W, F.2.1.same W, fo F.2.2 W (la22 H) (la23 H) (by decide)⟩
theorem Ω6.s1 (H : Hyp Z a0) {h h' : Heap} {a : Addr} {v0 v1 v : Value} (F : Ω6 Z h a v0 v1) (W : Wr h h' a (Jvm.RoadKit.slotOf Z Q16 "e1" Q20) v) : Ω6 Z h' a v0 v := ⟨F.1.wr W, fo F.2.1 W (la23 H) (la22 H) (by decide), F.2.2.same W⟩
theorem Ω4.s3 (H : Hyp Z a0) {h h' : Heap} {a : Addr} {v0 v1 v2 v3 v4 v5 v : Value} (F : Ω4 Z h a v0 v1 v2 v3 v4 v5) (W : Wr h h' a (Jvm.RoadKit.slotOf Z Q4 Q46 Q21) v) : Ω4 Z h' a v0 v1 v2 v v4 v5 := ⟨F.1.wr W, fo F.2.1 W (la17 H) (la19 H) (by decide), fo F.2.2.1 W (la16 H) (la19 H) (by decide), fo F.2.2.2.1 W (la18 H) (la19 H) (by decide), F.2.2.2.2.1.same W, fo F.2.2.2.2.2.1 W (la20 H) (la19 H) (by decide), fo F.2.2.2.2.2.2 W (la21 H) (la19 H) (by decide)⟩
theorem Ω4.s4 (H : Hyp Z a0) {h h' : Heap} {a : Addr} {v0 v1 v2 v3 v4 v5 v : Value} (F : Ω4 Z h a v0 v1 v2 v3 v4 v5) (W : Wr h h' a (Jvm.RoadKit.slotOf Z Q4 Q35 "I") v) : Ω4 Z h' a v0 v1 v2 v3 v v5 := ⟨F.1.wr W, fo F.2.1 W (la17 H) (la20 H) (by decide), fo F.2.2.1 W (la16 H) (la20 H) (by decide), fo F.2.2.2.1 W (la18 H) (la20 H) (by decide), fo F.2.2.2.2.1 W (la19 H) (la20 H) (by decide), F.2.2.2.2.2.1.same W, fo F.2.2.2.2.2.2 W (la21 H) (la20 H) (by decide)⟩
theorem Ω4.s5 (H : Hyp Z a0) {h h' : Heap} {a : Addr} {v0 v1 v2 v3 v4 v5 v : Value} (F : Ω4 Z h a v0 v1 v2 v3 v4 v5) (W : Wr h h' a (Jvm.RoadKit.slotOf Z Q4 "labels" Q41) v) : Ω4 Z h' a v0 v1 v2 v3 v4 v := ⟨F.1.wr W, fo F.2.1 W (la17 H) (la21 H) (by decide), fo F.2.2.1 W (la16 H) (la21 H) (by decide), fo F.2.2.2.1 W (la18 H) (la21 H) (by decide), fo F.2.2.2.2.1 W (la19 H) (la21 H) (by decide), fo F.2.2.2.2.2.1 W (la20 H) (la21 H) (by decide), F.2.2.2.2.2.2.same W⟩
def Ω7 (Z : State) (h : Heap) (a : Addr) (v0 v1 v2 v3 : Value) : Prop := Exa Z h a Q14 ∧ Fld Z h a Q14 "this$0" Q48 v0 ∧ Fld Z h a Q14 "lastRet" "I" v1 ∧ Fld Z h a Q14 Q50 "I" v2 ∧ Fld Z h a Q14 Q53 "I" v3
theorem Ω7.ext {h h' : Heap} {a : Addr} {v0 v1 v2 v3 : Value} (F : Ω7 Z h a v0 v1 v2 v3) (E : Ext h h') : Ω7 Z h' a v0 v1 v2 v3 := ⟨F.1.ext E, F.2.1.ext E, F.2.2.1.ext E, F.2.2.2.1.ext E, F.2.2.2.2.ext E⟩
theorem Ω7.keep {h h' : Heap} {a : Addr} {v0 v1 v2 v3 : Value} (F : Ω7 Z h a v0 v1 v2 v3) {ws : List Addr} (K : Keep h h' ws) (q : a ∉ ws) : Ω7 Z h' a v0 v1 v2 v3 := ⟨F.1.keep K, F.2.1.keep K q, F.2.2.1.keep K q, F.2.2.2.1.keep K q, F.2.2.2.2.keep K q⟩
theorem Ω7.other {h h' : Heap} {a : Addr} {v0 v1 v2 v3 : Value} (F : Ω7 Z h a v0 v1 v2 v3) {b : Addr} {sl : Nat} {v : Value} (W : Wr h h' b sl v) (q : a ≠ b) : Ω7 Z h' a v0 v1 v2 v3 := ⟨F.1.wr W, F.2.1.other W (Or.inl q), F.2.2.1.other W (Or.inl q), F.2.2.2.1.other W (Or.inl q), F.2.2.2.2.other W (Or.inl q)⟩
theorem Ω7.lt {h : Heap} {a : Addr} {v0 v1 v2 v3 : Value} (F : Ω7 Z h a v0 v1 v2 v3) : a < h.size := F.1.lt
theorem Ω7.new (H : Hyp Z a0) {h : Heap} {a : Addr} (A : Exa Z h a Q14) (D : ∀ {O nm d : String} {ty : FieldType}, Laid Z a0 Q14 O nm d → parseFieldDescriptor d = some ty → Fld Z h a O nm d (defaultValue ty)) : Ω7 Z h a .null (.int (0 : Int32)) (.int (0 : Int32)) (.int (0 : Int32)) := ⟨A, D (Or.inr (tw H 316 rfl)) (ty := (.object Q8)) (by decide), D (Or.inl (tw H 319 rfl)) (ty := .int) (by decide), D (Or.inl (tw H 322 rfl)) (ty := .int) (by decide), D (Or.inl (tw H 333 rfl)) (ty := .int) (by decide)⟩
theorem la24 (H : Hyp Z a0) : Lq Z a0 Q14 Q14 "lastRet" "I" .int := ⟨(Or.inl (tw H 319 rfl)), by decide⟩
theorem la25 (H : Hyp Z a0) : Lq Z a0 Q14 Q14 "this$0" Q48 (.object Q8) := ⟨(Or.inr (tw H 316 rfl)), by decide⟩
theorem la26 (H : Hyp Z a0) : Lq Z a0 Q14 Q14 Q50 "I" .int := ⟨(Or.inl (tw H 322 rfl)), by decide⟩
theorem la27 (H : Hyp Z a0) : Lq Z a0 Q14 Q14 Q53 "I" .int := ⟨(Or.inl (tw H 333 rfl)), by decide⟩
theorem Ω7.s0 (H : Hyp Z a0) {h h' : Heap} {a : Addr} {v0 v1 v2 v3 v : Value} (F : Ω7 Z h a v0 v1 v2 v3) (W : Wr h h' a (Jvm.RoadKit.slotOf Z Q14 "this$0" Q48) v) : Ω7 Z h' a v v1 v2 v3 := ⟨F.1.wr W, F.2.1.same W, fo F.2.2.1 W (la24 H) (la25 H) (by decide), fo F.2.2.2.1 W (la26 H) (la25 H) (by decide), fo F.2.2.2.2 W (la27 H) (la25 H) (by decide)⟩
theorem Ω7.s1 (H : Hyp Z a0) {h h' : Heap} {a : Addr} {v0 v1 v2 v3 v : Value} (F : Ω7 Z h a v0 v1 v2 v3) (W : Wr h h' a (Jvm.RoadKit.slotOf Z Q14 "lastRet" "I") v) : Ω7 Z h' a v0 v v2 v3 := ⟨F.1.wr W, fo F.2.1 W (la25 H) (la24 H) (by decide), F.2.2.1.same W, fo F.2.2.2.1 W (la26 H) (la24 H) (by decide), fo F.2.2.2.2 W (la27 H) (la24 H) (by decide)⟩
theorem Ω7.s2 (H : Hyp Z a0) {h h' : Heap} {a : Addr} {v0 v1 v2 v3 v : Value} (F : Ω7 Z h a v0 v1 v2 v3) (W : Wr h h' a (Jvm.RoadKit.slotOf Z Q14 Q50 "I") v) : Ω7 Z h' a v0 v1 v v3 := ⟨F.1.wr W, fo F.2.1 W (la25 H) (la26 H) (by decide), fo F.2.2.1 W (la24 H) (la26 H) (by decide), F.2.2.2.1.same W, fo F.2.2.2.2 W (la27 H) (la26 H) (by decide)⟩
theorem Ω7.s3 (H : Hyp Z a0) {h h' : Heap} {a : Addr} {v0 v1 v2 v3 v : Value} (F : Ω7 Z h a v0 v1 v2 v3) (W : Wr h h' a (Jvm.RoadKit.slotOf Z Q14 Q53 "I") v) : Ω7 Z h' a v0 v1 v2 v := ⟨F.1.wr W, fo F.2.1 W (la25 H) (la27 H) (by decide), fo F.2.2.1 W (la24 H) (la27 H) (by decide), fo F.2.2.2.1 W (la26 H) (la27 H) (by decide), F.2.2.2.2.same W⟩
def Ω8 (Z : State) (h : Heap) (a : Addr) (v0 v1 v2 v3 : Value) : Prop := Exa Z h a Q9 ∧ Fld Z h a Q9 "list" Q21 v0 ∧ Fld Z h a Q9 Q35 "I" v1 ∧ Fld Z h a Q9 Q53 "I" v2 ∧ Fld Z h a Q9 Q54 "Z" v3
theorem Ω8.ext {h h' : Heap} {a : Addr} {v0 v1 v2 v3 : Value} (F : Ω8 Z h a v0 v1 v2 v3) (E : Ext h h') : Ω8 Z h' a v0 v1 v2 v3 := ⟨F.1.ext E, F.2.1.ext E, F.2.2.1.ext E, F.2.2.2.1.ext E, F.2.2.2.2.ext E⟩
theorem Ω8.keep {h h' : Heap} {a : Addr} {v0 v1 v2 v3 : Value} (F : Ω8 Z h a v0 v1 v2 v3) {ws : List Addr} (K : Keep h h' ws) (q : a ∉ ws) : Ω8 Z h' a v0 v1 v2 v3 := ⟨F.1.keep K, F.2.1.keep K q, F.2.2.1.keep K q, F.2.2.2.1.keep K q, F.2.2.2.2.keep K q⟩
theorem Ω8.other {h h' : Heap} {a : Addr} {v0 v1 v2 v3 : Value} (F : Ω8 Z h a v0 v1 v2 v3) {b : Addr} {sl : Nat} {v : Value} (W : Wr h h' b sl v) (q : a ≠ b) : Ω8 Z h' a v0 v1 v2 v3 := ⟨F.1.wr W, F.2.1.other W (Or.inl q), F.2.2.1.other W (Or.inl q), F.2.2.2.1.other W (Or.inl q), F.2.2.2.2.other W (Or.inl q)⟩
theorem Ω8.lt {h : Heap} {a : Addr} {v0 v1 v2 v3 : Value} (F : Ω8 Z h a v0 v1 v2 v3) : a < h.size := F.1.lt
theorem Ω8.new (H : Hyp Z a0) {h : Heap} {a : Addr} (A : Exa Z h a Q9) (D : ∀ {O nm d : String} {ty : FieldType}, Laid Z a0 Q9 O nm d → parseFieldDescriptor d = some ty → Fld Z h a O nm d (defaultValue ty)) : Ω8 Z h a .null (.int (0 : Int32)) (.int (0 : Int32)) (.int (0 : Int32)) := ⟨A, D (Or.inr (tw H 367 rfl)) (ty := (.object Q19)) (by decide), D (Or.inr (tw H 369 rfl)) (ty := .int) (by decide), D (Or.inl (w371 H)) (ty := .int) (by decide), D (Or.inr (tw H 373 rfl)) (ty := .boolean) (by decide)⟩
theorem la28 (H : Hyp Z a0) : Lq Z a0 Q9 Q9 Q35 "I" .int := ⟨(Or.inr (tw H 369 rfl)), by decide⟩
theorem la29 (H : Hyp Z a0) : Lq Z a0 Q9 Q9 "list" Q21 (.object Q19) := ⟨(Or.inr (tw H 367 rfl)), by decide⟩
theorem la30 (H : Hyp Z a0) : Lq Z a0 Q9 Q9 Q53 "I" .int := ⟨(Or.inl (w371 H)), by decide⟩
theorem la31 (H : Hyp Z a0) : Lq Z a0 Q9 Q9 Q54 "Z" .boolean := ⟨(Or.inr (tw H 373 rfl)), by decide⟩
theorem Ω8.s0 (H : Hyp Z a0) {h h' : Heap} {a : Addr} {v0 v1 v2 v3 v : Value} (F : Ω8 Z h a v0 v1 v2 v3) (W : Wr h h' a (Jvm.RoadKit.slotOf Z Q9 "list" Q21) v) : Ω8 Z h' a v v1 v2 v3 := ⟨F.1.wr W, F.2.1.same W, fo F.2.2.1 W (la28 H) (la29 H) (by decide), fo F.2.2.2.1 W (la30 H) (la29 H) (by decide), fo F.2.2.2.2 W (la31 H) (la29 H) (by decide)⟩
theorem Ω8.s1 (H : Hyp Z a0) {h h' : Heap} {a : Addr} {v0 v1 v2 v3 v : Value} (F : Ω8 Z h a v0 v1 v2 v3) (W : Wr h h' a (Jvm.RoadKit.slotOf Z Q9 Q35 "I") v) : Ω8 Z h' a v0 v v2 v3 := ⟨F.1.wr W, fo F.2.1 W (la29 H) (la28 H) (by decide), F.2.2.1.same W, fo F.2.2.2.1 W (la30 H) (la28 H) (by decide), fo F.2.2.2.2 W (la31 H) (la28 H) (by decide)⟩
theorem Ω8.s2 (H : Hyp Z a0) {h h' : Heap} {a : Addr} {v0 v1 v2 v3 v : Value} (F : Ω8 Z h a v0 v1 v2 v3) (W : Wr h h' a (Jvm.RoadKit.slotOf Z Q9 Q53 "I") v) : Ω8 Z h' a v0 v1 v v3 := ⟨F.1.wr W, fo F.2.1 W (la29 H) (la30 H) (by decide), fo F.2.2.1 W (la28 H) (la30 H) (by decide), F.2.2.2.1.same W, fo F.2.2.2.2 W (la31 H) (la30 H) (by decide)⟩
theorem Ω8.s3 (H : Hyp Z a0) {h h' : Heap} {a : Addr} {v0 v1 v2 v3 v : Value} (F : Ω8 Z h a v0 v1 v2 v3) (W : Wr h h' a (Jvm.RoadKit.slotOf Z Q9 Q54 "Z") v) : Ω8 Z h' a v0 v1 v2 v := ⟨F.1.wr W, fo F.2.1 W (la29 H) (la31 H) (by decide), fo F.2.2.1 W (la28 H) (la31 H) (by decide), fo F.2.2.2.1 W (la30 H) (la31 H) (by decide), F.2.2.2.2.same W⟩
theorem Ω1.s2 (H : Hyp Z a0) {h h' : Heap} {a : Addr} {v0 v1 v2 v3 v : Value} (F : Ω1 Z h a v0 v1 v2 v3) (W : Wr h h' a (Jvm.RoadKit.slotOf Z Q10 "hash" "I") v) : Ω1 Z h' a v0 v1 v v3 := ⟨F.1.wr W, fo F.2.1 W (la4 H) (la5 H) (by decide), fo F.2.2.1 W (la3 H) (la5 H) (by decide), F.2.2.2.1.same W, fo F.2.2.2.2 W (la6 H) (la5 H) (by decide)⟩
theorem Ω5.s2 (H : Hyp Z a0) {h h' : Heap} {a : Addr} {v0 v1 v2 v3 v4 v : Value} (F : Ω5 Z h a v0 v1 v2 v3 v4) (W : Wr h h' a (Jvm.RoadKit.slotOf Z Q15 "threshold" "I") v) : Ω5 Z h' a v0 v1 v v3 v4 := ⟨F.1.wr W, fo F.2.1 W (la12 H) (la13 H) (by decide), fo F.2.2.1 W (la11 H) (la13 H) (by decide), F.2.2.2.1.same W, fo F.2.2.2.2.1 W (la14 H) (la13 H) (by decide), fo F.2.2.2.2.2 W (la15 H) (la13 H) (by decide)⟩
theorem Ω5.s1 (H : Hyp Z a0) {h h' : Heap} {a : Addr} {v0 v1 v2 v3 v4 v : Value} (F : Ω5 Z h a v0 v1 v2 v3 v4) (W : Wr h h' a (Jvm.RoadKit.slotOf Z Q15 "table" Q25) v) : Ω5 Z h' a v0 v v2 v3 v4 := ⟨F.1.wr W, fo F.2.1 W (la12 H) (la11 H) (by decide), F.2.2.1.same W, fo F.2.2.2.1 W (la13 H) (la11 H) (by decide), fo F.2.2.2.2.1 W (la14 H) (la11 H) (by decide), fo F.2.2.2.2.2 W (la15 H) (la11 H) (by decide)⟩
def Ω9 (Z : State) (h : Heap) (a : Addr) (v0 v1 v2 v3 : Value) : Prop := Exa Z h a Q6 ∧ Fld Z h a Q6 "hash" "I" v0 ∧ Fld Z h a Q6 "key" Q20 v1 ∧ Fld Z h a Q6 Q49 Q20 v2 ∧ Fld Z h a Q6 "next" Q44 v3
theorem Ω9.ext {h h' : Heap} {a : Addr} {v0 v1 v2 v3 : Value} (F : Ω9 Z h a v0 v1 v2 v3) (E : Ext h h') : Ω9 Z h' a v0 v1 v2 v3 := ⟨F.1.ext E, F.2.1.ext E, F.2.2.1.ext E, F.2.2.2.1.ext E, F.2.2.2.2.ext E⟩
theorem Ω9.keep {h h' : Heap} {a : Addr} {v0 v1 v2 v3 : Value} (F : Ω9 Z h a v0 v1 v2 v3) {ws : List Addr} (K : Keep h h' ws) (q : a ∉ ws) : Ω9 Z h' a v0 v1 v2 v3 := ⟨F.1.keep K, F.2.1.keep K q, F.2.2.1.keep K q, F.2.2.2.1.keep K q, F.2.2.2.2.keep K q⟩
theorem Ω9.other {h h' : Heap} {a : Addr} {v0 v1 v2 v3 : Value} (F : Ω9 Z h a v0 v1 v2 v3) {b : Addr} {sl : Nat} {v : Value} (W : Wr h h' b sl v) (q : a ≠ b) : Ω9 Z h' a v0 v1 v2 v3 := ⟨F.1.wr W, F.2.1.other W (Or.inl q), F.2.2.1.other W (Or.inl q), F.2.2.2.1.other W (Or.inl q), F.2.2.2.2.other W (Or.inl q)⟩
theorem Ω9.lt {h : Heap} {a : Addr} {v0 v1 v2 v3 : Value} (F : Ω9 Z h a v0 v1 v2 v3) : a < h.size := F.1.lt
theorem Ω9.new (H : Hyp Z a0) {h : Heap} {a : Addr} (A : Exa Z h a Q6) (D : ∀ {O nm d : String} {ty : FieldType}, Laid Z a0 Q6 O nm d → parseFieldDescriptor d = some ty → Fld Z h a O nm d (defaultValue ty)) : Ω9 Z h a (.int (0 : Int32)) .null .null .null := ⟨A, D (Or.inr (w457 H)) (ty := .int) (by decide), D (Or.inr (w459 H)) (ty := (.object Q3)) (by decide), D (Or.inl (w461 H)) (ty := (.object Q3)) (by decide), D (Or.inl (w463 H)) (ty := (.object Q6)) (by decide)⟩
theorem la32 (H : Hyp Z a0) : Lq Z a0 Q6 Q6 "key" Q20 (.object Q3) := ⟨(Or.inr (w459 H)), by decide⟩
theorem la33 (H : Hyp Z a0) : Lq Z a0 Q6 Q6 "hash" "I" .int := ⟨(Or.inr (w457 H)), by decide⟩
theorem la34 (H : Hyp Z a0) : Lq Z a0 Q6 Q6 Q49 Q20 (.object Q3) := ⟨(Or.inl (w461 H)), by decide⟩
theorem la35 (H : Hyp Z a0) : Lq Z a0 Q6 Q6 "next" Q44 (.object Q6) := ⟨(Or.inl (w463 H)), by decide⟩
theorem Ω9.s0 (H : Hyp Z a0) {h h' : Heap} {a : Addr} {v0 v1 v2 v3 v : Value} (F : Ω9 Z h a v0 v1 v2 v3) (W : Wr h h' a (Jvm.RoadKit.slotOf Z Q6 "hash" "I") v) : Ω9 Z h' a v v1 v2 v3 := ⟨F.1.wr W, F.2.1.same W, fo F.2.2.1 W (la32 H) (la33 H) (by decide), fo F.2.2.2.1 W (la34 H) (la33 H) (by decide), fo F.2.2.2.2 W (la35 H) (la33 H) (by decide)⟩
theorem Ω9.s1 (H : Hyp Z a0) {h h' : Heap} {a : Addr} {v0 v1 v2 v3 v : Value} (F : Ω9 Z h a v0 v1 v2 v3) (W : Wr h h' a (Jvm.RoadKit.slotOf Z Q6 "key" Q20) v) : Ω9 Z h' a v0 v v2 v3 := ⟨F.1.wr W, fo F.2.1 W (la33 H) (la32 H) (by decide), F.2.2.1.same W, fo F.2.2.2.1 W (la34 H) (la32 H) (by decide), fo F.2.2.2.2 W (la35 H) (la32 H) (by decide)⟩
theorem Ω9.s2 (H : Hyp Z a0) {h h' : Heap} {a : Addr} {v0 v1 v2 v3 v : Value} (F : Ω9 Z h a v0 v1 v2 v3) (W : Wr h h' a (Jvm.RoadKit.slotOf Z Q6 Q49 Q20) v) : Ω9 Z h' a v0 v1 v v3 := ⟨F.1.wr W, fo F.2.1 W (la33 H) (la34 H) (by decide), fo F.2.2.1 W (la32 H) (la34 H) (by decide), F.2.2.2.1.same W, fo F.2.2.2.2 W (la35 H) (la34 H) (by decide)⟩
theorem Ω9.s3 (H : Hyp Z a0) {h h' : Heap} {a : Addr} {v0 v1 v2 v3 v : Value} (F : Ω9 Z h a v0 v1 v2 v3) (W : Wr h h' a (Jvm.RoadKit.slotOf Z Q6 "next" Q44) v) : Ω9 Z h' a v0 v1 v2 v := ⟨F.1.wr W, fo F.2.1 W (la33 H) (la35 H) (by decide), fo F.2.2.1 W (la32 H) (la35 H) (by decide), fo F.2.2.2.1 W (la34 H) (la35 H) (by decide), F.2.2.2.2.same W⟩
theorem Ω5.s3 (H : Hyp Z a0) {h h' : Heap} {a : Addr} {v0 v1 v2 v3 v4 v : Value} (F : Ω5 Z h a v0 v1 v2 v3 v4) (W : Wr h h' a (Jvm.RoadKit.slotOf Z Q15 Q43 "I") v) : Ω5 Z h' a v0 v1 v2 v v4 := ⟨F.1.wr W, fo F.2.1 W (la12 H) (la14 H) (by decide), fo F.2.2.1 W (la11 H) (la14 H) (by decide), fo F.2.2.2.1 W (la13 H) (la14 H) (by decide), F.2.2.2.2.1.same W, fo F.2.2.2.2.2 W (la15 H) (la14 H) (by decide)⟩
theorem Ω5.s4 (H : Hyp Z a0) {h h' : Heap} {a : Addr} {v0 v1 v2 v3 v4 v : Value} (F : Ω5 Z h a v0 v1 v2 v3 v4) (W : Wr h h' a (Jvm.RoadKit.slotOf Z Q15 Q35 "I") v) : Ω5 Z h' a v0 v1 v2 v3 v := ⟨F.1.wr W, fo F.2.1 W (la12 H) (la15 H) (by decide), fo F.2.2.1 W (la11 H) (la15 H) (by decide), fo F.2.2.2.1 W (la13 H) (la15 H) (by decide), fo F.2.2.2.2.1 W (la14 H) (la15 H) (by decide), F.2.2.2.2.2.same W⟩
def Ω10 (Z : State) (h : Heap) (a : Addr) (v0 v1 v2 v3 v4 v5 v6 v7 v8 v9 v10 v11 : Value) : Prop := Exa Z h a Q1 ∧ Fld Z h a Q1 "steps" Q21 v0 ∧ Fld Z h a Q1 "puzzle" Q28 v1 ∧ Fld Z h a Q1 Q35 "I" v2 ∧ Fld Z h a Q1 Q46 "I" v3 ∧ Fld Z h a Q1 Q32 "I" v4 ∧ Fld Z h a Q1 "values" "[B" v5 ∧ Fld Z h a Q1 "stepOf" "[I" v6 ∧ Fld Z h a Q1 "partner" "[I" v7 ∧ Fld Z h a Q1 "open" "[J" v8 ∧ Fld Z h a Q1 "cellCount" "I" v9 ∧ Fld Z h a Q1 "room" "I" v10 ∧ Fld Z h a Q1 "limit" "I" v11
theorem Ω10.ext {h h' : Heap} {a : Addr} {v0 v1 v2 v3 v4 v5 v6 v7 v8 v9 v10 v11 : Value} (F : Ω10 Z h a v0 v1 v2 v3 v4 v5 v6 v7 v8 v9 v10 v11) (E : Ext h h') : Ω10 Z h' a v0 v1 v2 v3 v4 v5 v6 v7 v8 v9 v10 v11 := ⟨F.1.ext E, F.2.1.ext E, F.2.2.1.ext E, F.2.2.2.1.ext E, F.2.2.2.2.1.ext E, F.2.2.2.2.2.1.ext E, F.2.2.2.2.2.2.1.ext E, F.2.2.2.2.2.2.2.1.ext E, F.2.2.2.2.2.2.2.2.1.ext E, F.2.2.2.2.2.2.2.2.2.1.ext E, F.2.2.2.2.2.2.2.2.2.2.1.ext E, F.2.2.2.2.2.2.2.2.2.2.2.1.ext E, F.2.2.2.2.2.2.2.2.2.2.2.2.ext E⟩
theorem Ω10.keep {h h' : Heap} {a : Addr} {v0 v1 v2 v3 v4 v5 v6 v7 v8 v9 v10 v11 : Value} (F : Ω10 Z h a v0 v1 v2 v3 v4 v5 v6 v7 v8 v9 v10 v11) {ws : List Addr} (K : Keep h h' ws) (q : a ∉ ws) : Ω10 Z h' a v0 v1 v2 v3 v4 v5 v6 v7 v8 v9 v10 v11 := ⟨F.1.keep K, F.2.1.keep K q, F.2.2.1.keep K q, F.2.2.2.1.keep K q, F.2.2.2.2.1.keep K q, F.2.2.2.2.2.1.keep K q, F.2.2.2.2.2.2.1.keep K q, F.2.2.2.2.2.2.2.1.keep K q, F.2.2.2.2.2.2.2.2.1.keep K q, F.2.2.2.2.2.2.2.2.2.1.keep K q, F.2.2.2.2.2.2.2.2.2.2.1.keep K q, F.2.2.2.2.2.2.2.2.2.2.2.1.keep K q, F.2.2.2.2.2.2.2.2.2.2.2.2.keep K q⟩
theorem Ω10.other {h h' : Heap} {a : Addr} {v0 v1 v2 v3 v4 v5 v6 v7 v8 v9 v10 v11 : Value} (F : Ω10 Z h a v0 v1 v2 v3 v4 v5 v6 v7 v8 v9 v10 v11) {b : Addr} {sl : Nat} {v : Value} (W : Wr h h' b sl v) (q : a ≠ b) : Ω10 Z h' a v0 v1 v2 v3 v4 v5 v6 v7 v8 v9 v10 v11 := ⟨F.1.wr W, F.2.1.other W (Or.inl q), F.2.2.1.other W (Or.inl q), F.2.2.2.1.other W (Or.inl q), F.2.2.2.2.1.other W (Or.inl q), F.2.2.2.2.2.1.other W (Or.inl q), F.2.2.2.2.2.2.1.other W (Or.inl q), F.2.2.2.2.2.2.2.1.other W (Or.inl q), F.2.2.2.2.2.2.2.2.1.other W (Or.inl q), F.2.2.2.2.2.2.2.2.2.1.other W (Or.inl q), F.2.2.2.2.2.2.2.2.2.2.1.other W (Or.inl q), F.2.2.2.2.2.2.2.2.2.2.2.1.other W (Or.inl q), F.2.2.2.2.2.2.2.2.2.2.2.2.other W (Or.inl q)⟩
theorem Ω10.lt {h : Heap} {a : Addr} {v0 v1 v2 v3 v4 v5 v6 v7 v8 v9 v10 v11 : Value} (F : Ω10 Z h a v0 v1 v2 v3 v4 v5 v6 v7 v8 v9 v10 v11) : a < h.size := F.1.lt
theorem Ω10.new (H : Hyp Z a0) {h : Heap} {a : Addr} (A : Exa Z h a Q1) (D : ∀ {O nm d : String} {ty : FieldType}, Laid Z a0 Q1 O nm d → parseFieldDescriptor d = some ty → Fld Z h a O nm d (defaultValue ty)) : Ω10 Z h a .null .null (.int (0 : Int32)) (.int (0 : Int32)) (.int (0 : Int32)) .null .null .null .null (.int (0 : Int32)) (.int (0 : Int32)) (.int (0 : Int32)) := ⟨A, D (Or.inr (tw H 483 rfl)) (ty := (.object Q19)) (by decide), D (Or.inr (tw H 485 rfl)) (ty := (.object Q4)) (by decide), D (Or.inr (tw H 492 rfl)) (ty := .int) (by decide), D (Or.inr (tw H 506 rfl)) (ty := .int) (by decide), D (Or.inr (tw H 513 rfl)) (ty := .int) (by decide), D (Or.inr (tw H 515 rfl)) (ty := (.array .byte)) (by decide), D (Or.inr (tw H 518 rfl)) (ty := (.array .int)) (by decide), D (Or.inr (tw H 525 rfl)) (ty := (.array .int)) (by decide), D (Or.inr (tw H 531 rfl)) (ty := (.array .long)) (by decide), D (Or.inr (tw H 536 rfl)) (ty := .int) (by decide), D (Or.inr (tw H 539 rfl)) (ty := .int) (by decide), D (Or.inl (tw H 541 rfl)) (ty := .int) (by decide)⟩
theorem la36 (H : Hyp Z a0) : Lq Z a0 Q1 Q1 "puzzle" Q28 (.object Q4) := ⟨(Or.inr (tw H 485 rfl)), by decide⟩
theorem la37 (H : Hyp Z a0) : Lq Z a0 Q1 Q1 "steps" Q21 (.object Q19) := ⟨(Or.inr (tw H 483 rfl)), by decide⟩
theorem la38 (H : Hyp Z a0) : Lq Z a0 Q1 Q1 Q35 "I" .int := ⟨(Or.inr (tw H 492 rfl)), by decide⟩
theorem la39 (H : Hyp Z a0) : Lq Z a0 Q1 Q1 Q46 "I" .int := ⟨(Or.inr (tw H 506 rfl)), by decide⟩
theorem la40 (H : Hyp Z a0) : Lq Z a0 Q1 Q1 Q32 "I" .int := ⟨(Or.inr (tw H 513 rfl)), by decide⟩
theorem la41 (H : Hyp Z a0) : Lq Z a0 Q1 Q1 "values" "[B" (.array .byte) := ⟨(Or.inr (tw H 515 rfl)), by decide⟩
theorem la42 (H : Hyp Z a0) : Lq Z a0 Q1 Q1 "stepOf" "[I" (.array .int) := ⟨(Or.inr (tw H 518 rfl)), by decide⟩
theorem la43 (H : Hyp Z a0) : Lq Z a0 Q1 Q1 "partner" "[I" (.array .int) := ⟨(Or.inr (tw H 525 rfl)), by decide⟩
theorem la44 (H : Hyp Z a0) : Lq Z a0 Q1 Q1 "open" "[J" (.array .long) := ⟨(Or.inr (tw H 531 rfl)), by decide⟩
theorem la45 (H : Hyp Z a0) : Lq Z a0 Q1 Q1 "cellCount" "I" .int := ⟨(Or.inr (tw H 536 rfl)), by decide⟩
theorem la46 (H : Hyp Z a0) : Lq Z a0 Q1 Q1 "room" "I" .int := ⟨(Or.inr (tw H 539 rfl)), by decide⟩
theorem la47 (H : Hyp Z a0) : Lq Z a0 Q1 Q1 "limit" "I" .int := ⟨(Or.inl (tw H 541 rfl)), by decide⟩
theorem Ω10.s0 (H : Hyp Z a0) {h h' : Heap} {a : Addr} {v0 v1 v2 v3 v4 v5 v6 v7 v8 v9 v10 v11 v : Value} (F : Ω10 Z h a v0 v1 v2 v3 v4 v5 v6 v7 v8 v9 v10 v11) (W : Wr h h' a (Jvm.RoadKit.slotOf Z Q1 "steps" Q21) v) : Ω10 Z h' a v v1 v2 v3 v4 v5 v6 v7 v8 v9 v10 v11 := ⟨F.1.wr W, F.2.1.same W, fo F.2.2.1 W (la36 H) (la37 H) (by decide), fo F.2.2.2.1 W (la38 H) (la37 H) (by decide), fo F.2.2.2.2.1 W (la39 H) (la37 H) (by decide), fo F.2.2.2.2.2.1 W (la40 H) (la37 H) (by decide), fo F.2.2.2.2.2.2.1 W (la41 H) (la37 H) (by decide), fo F.2.2.2.2.2.2.2.1 W (la42 H) (la37 H) (by decide), fo F.2.2.2.2.2.2.2.2.1 W (la43 H) (la37 H) (by decide), fo F.2.2.2.2.2.2.2.2.2.1 W (la44 H) (la37 H) (by decide), fo F.2.2.2.2.2.2.2.2.2.2.1 W (la45 H) (la37 H) (by decide), fo F.2.2.2.2.2.2.2.2.2.2.2.1 W (la46 H) (la37 H) (by decide), fo F.2.2.2.2.2.2.2.2.2.2.2.2 W (la47 H) (la37 H) (by decide)⟩
theorem Ω10.s1 (H : Hyp Z a0) {h h' : Heap} {a : Addr} {v0 v1 v2 v3 v4 v5 v6 v7 v8 v9 v10 v11 v : Value} (F : Ω10 Z h a v0 v1 v2 v3 v4 v5 v6 v7 v8 v9 v10 v11) (W : Wr h h' a (Jvm.RoadKit.slotOf Z Q1 "puzzle" Q28) v) : Ω10 Z h' a v0 v v2 v3 v4 v5 v6 v7 v8 v9 v10 v11 := ⟨F.1.wr W, fo F.2.1 W (la37 H) (la36 H) (by decide), F.2.2.1.same W, fo F.2.2.2.1 W (la38 H) (la36 H) (by decide), fo F.2.2.2.2.1 W (la39 H) (la36 H) (by decide), fo F.2.2.2.2.2.1 W (la40 H) (la36 H) (by decide), fo F.2.2.2.2.2.2.1 W (la41 H) (la36 H) (by decide), fo F.2.2.2.2.2.2.2.1 W (la42 H) (la36 H) (by decide), fo F.2.2.2.2.2.2.2.2.1 W (la43 H) (la36 H) (by decide), fo F.2.2.2.2.2.2.2.2.2.1 W (la44 H) (la36 H) (by decide), fo F.2.2.2.2.2.2.2.2.2.2.1 W (la45 H) (la36 H) (by decide), fo F.2.2.2.2.2.2.2.2.2.2.2.1 W (la46 H) (la36 H) (by decide), fo F.2.2.2.2.2.2.2.2.2.2.2.2 W (la47 H) (la36 H) (by decide)⟩
theorem Ω10.s2 (H : Hyp Z a0) {h h' : Heap} {a : Addr} {v0 v1 v2 v3 v4 v5 v6 v7 v8 v9 v10 v11 v : Value} (F : Ω10 Z h a v0 v1 v2 v3 v4 v5 v6 v7 v8 v9 v10 v11) (W : Wr h h' a (Jvm.RoadKit.slotOf Z Q1 Q35 "I") v) : Ω10 Z h' a v0 v1 v v3 v4 v5 v6 v7 v8 v9 v10 v11 := ⟨F.1.wr W, fo F.2.1 W (la37 H) (la38 H) (by decide), fo F.2.2.1 W (la36 H) (la38 H) (by decide), F.2.2.2.1.same W, fo F.2.2.2.2.1 W (la39 H) (la38 H) (by decide), fo F.2.2.2.2.2.1 W (la40 H) (la38 H) (by decide), fo F.2.2.2.2.2.2.1 W (la41 H) (la38 H) (by decide), fo F.2.2.2.2.2.2.2.1 W (la42 H) (la38 H) (by decide), fo F.2.2.2.2.2.2.2.2.1 W (la43 H) (la38 H) (by decide), fo F.2.2.2.2.2.2.2.2.2.1 W (la44 H) (la38 H) (by decide), fo F.2.2.2.2.2.2.2.2.2.2.1 W (la45 H) (la38 H) (by decide), fo F.2.2.2.2.2.2.2.2.2.2.2.1 W (la46 H) (la38 H) (by decide), fo F.2.2.2.2.2.2.2.2.2.2.2.2 W (la47 H) (la38 H) (by decide)⟩
theorem Ω10.s3 (H : Hyp Z a0) {h h' : Heap} {a : Addr} {v0 v1 v2 v3 v4 v5 v6 v7 v8 v9 v10 v11 v : Value} (F : Ω10 Z h a v0 v1 v2 v3 v4 v5 v6 v7 v8 v9 v10 v11) (W : Wr h h' a (Jvm.RoadKit.slotOf Z Q1 Q46 "I") v) : Ω10 Z h' a v0 v1 v2 v v4 v5 v6 v7 v8 v9 v10 v11 := ⟨F.1.wr W, fo F.2.1 W (la37 H) (la39 H) (by decide), fo F.2.2.1 W (la36 H) (la39 H) (by decide), fo F.2.2.2.1 W (la38 H) (la39 H) (by decide), F.2.2.2.2.1.same W, fo F.2.2.2.2.2.1 W (la40 H) (la39 H) (by decide), fo F.2.2.2.2.2.2.1 W (la41 H) (la39 H) (by decide), fo F.2.2.2.2.2.2.2.1 W (la42 H) (la39 H) (by decide), fo F.2.2.2.2.2.2.2.2.1 W (la43 H) (la39 H) (by decide), fo F.2.2.2.2.2.2.2.2.2.1 W (la44 H) (la39 H) (by decide), fo F.2.2.2.2.2.2.2.2.2.2.1 W (la45 H) (la39 H) (by decide), fo F.2.2.2.2.2.2.2.2.2.2.2.1 W (la46 H) (la39 H) (by decide), fo F.2.2.2.2.2.2.2.2.2.2.2.2 W (la47 H) (la39 H) (by decide)⟩
theorem Ω10.s4 (H : Hyp Z a0) {h h' : Heap} {a : Addr} {v0 v1 v2 v3 v4 v5 v6 v7 v8 v9 v10 v11 v : Value} (F : Ω10 Z h a v0 v1 v2 v3 v4 v5 v6 v7 v8 v9 v10 v11) (W : Wr h h' a (Jvm.RoadKit.slotOf Z Q1 Q32 "I") v) : Ω10 Z h' a v0 v1 v2 v3 v v5 v6 v7 v8 v9 v10 v11 := ⟨F.1.wr W, fo F.2.1 W (la37 H) (la40 H) (by decide), fo F.2.2.1 W (la36 H) (la40 H) (by decide), fo F.2.2.2.1 W (la38 H) (la40 H) (by decide), fo F.2.2.2.2.1 W (la39 H) (la40 H) (by decide), F.2.2.2.2.2.1.same W, fo F.2.2.2.2.2.2.1 W (la41 H) (la40 H) (by decide), fo F.2.2.2.2.2.2.2.1 W (la42 H) (la40 H) (by decide), fo F.2.2.2.2.2.2.2.2.1 W (la43 H) (la40 H) (by decide), fo F.2.2.2.2.2.2.2.2.2.1 W (la44 H) (la40 H) (by decide), fo F.2.2.2.2.2.2.2.2.2.2.1 W (la45 H) (la40 H) (by decide), fo F.2.2.2.2.2.2.2.2.2.2.2.1 W (la46 H) (la40 H) (by decide), fo F.2.2.2.2.2.2.2.2.2.2.2.2 W (la47 H) (la40 H) (by decide)⟩
theorem Ω10.s5 (H : Hyp Z a0) {h h' : Heap} {a : Addr} {v0 v1 v2 v3 v4 v5 v6 v7 v8 v9 v10 v11 v : Value} (F : Ω10 Z h a v0 v1 v2 v3 v4 v5 v6 v7 v8 v9 v10 v11) (W : Wr h h' a (Jvm.RoadKit.slotOf Z Q1 "values" "[B") v) : Ω10 Z h' a v0 v1 v2 v3 v4 v v6 v7 v8 v9 v10 v11 := ⟨F.1.wr W, fo F.2.1 W (la37 H) (la41 H) (by decide), fo F.2.2.1 W (la36 H) (la41 H) (by decide), fo F.2.2.2.1 W (la38 H) (la41 H) (by decide), fo F.2.2.2.2.1 W (la39 H) (la41 H) (by decide), fo F.2.2.2.2.2.1 W (la40 H) (la41 H) (by decide), F.2.2.2.2.2.2.1.same W, fo F.2.2.2.2.2.2.2.1 W (la42 H) (la41 H) (by decide), fo F.2.2.2.2.2.2.2.2.1 W (la43 H) (la41 H) (by decide), fo F.2.2.2.2.2.2.2.2.2.1 W (la44 H) (la41 H) (by decide), fo F.2.2.2.2.2.2.2.2.2.2.1 W (la45 H) (la41 H) (by decide), fo F.2.2.2.2.2.2.2.2.2.2.2.1 W (la46 H) (la41 H) (by decide), fo F.2.2.2.2.2.2.2.2.2.2.2.2 W (la47 H) (la41 H) (by decide)⟩
theorem Ω10.s6 (H : Hyp Z a0) {h h' : Heap} {a : Addr} {v0 v1 v2 v3 v4 v5 v6 v7 v8 v9 v10 v11 v : Value} (F : Ω10 Z h a v0 v1 v2 v3 v4 v5 v6 v7 v8 v9 v10 v11) (W : Wr h h' a (Jvm.RoadKit.slotOf Z Q1 "stepOf" "[I") v) : Ω10 Z h' a v0 v1 v2 v3 v4 v5 v v7 v8 v9 v10 v11 := ⟨F.1.wr W, fo F.2.1 W (la37 H) (la42 H) (by decide), fo F.2.2.1 W (la36 H) (la42 H) (by decide), fo F.2.2.2.1 W (la38 H) (la42 H) (by decide), fo F.2.2.2.2.1 W (la39 H) (la42 H) (by decide), fo F.2.2.2.2.2.1 W (la40 H) (la42 H) (by decide), fo F.2.2.2.2.2.2.1 W (la41 H) (la42 H) (by decide), F.2.2.2.2.2.2.2.1.same W, fo F.2.2.2.2.2.2.2.2.1 W (la43 H) (la42 H) (by decide), fo F.2.2.2.2.2.2.2.2.2.1 W (la44 H) (la42 H) (by decide), fo F.2.2.2.2.2.2.2.2.2.2.1 W (la45 H) (la42 H) (by decide), fo F.2.2.2.2.2.2.2.2.2.2.2.1 W (la46 H) (la42 H) (by decide), fo F.2.2.2.2.2.2.2.2.2.2.2.2 W (la47 H) (la42 H) (by decide)⟩
theorem Ω10.s7 (H : Hyp Z a0) {h h' : Heap} {a : Addr} {v0 v1 v2 v3 v4 v5 v6 v7 v8 v9 v10 v11 v : Value} (F : Ω10 Z h a v0 v1 v2 v3 v4 v5 v6 v7 v8 v9 v10 v11) (W : Wr h h' a (Jvm.RoadKit.slotOf Z Q1 "partner" "[I") v) : Ω10 Z h' a v0 v1 v2 v3 v4 v5 v6 v v8 v9 v10 v11 := ⟨F.1.wr W, fo F.2.1 W (la37 H) (la43 H) (by decide), fo F.2.2.1 W (la36 H) (la43 H) (by decide), fo F.2.2.2.1 W (la38 H) (la43 H) (by decide), fo F.2.2.2.2.1 W (la39 H) (la43 H) (by decide), fo F.2.2.2.2.2.1 W (la40 H) (la43 H) (by decide), fo F.2.2.2.2.2.2.1 W (la41 H) (la43 H) (by decide), fo F.2.2.2.2.2.2.2.1 W (la42 H) (la43 H) (by decide), F.2.2.2.2.2.2.2.2.1.same W, fo F.2.2.2.2.2.2.2.2.2.1 W (la44 H) (la43 H) (by decide), fo F.2.2.2.2.2.2.2.2.2.2.1 W (la45 H) (la43 H) (by decide), fo F.2.2.2.2.2.2.2.2.2.2.2.1 W (la46 H) (la43 H) (by decide), fo F.2.2.2.2.2.2.2.2.2.2.2.2 W (la47 H) (la43 H) (by decide)⟩
theorem Ω10.s8 (H : Hyp Z a0) {h h' : Heap} {a : Addr} {v0 v1 v2 v3 v4 v5 v6 v7 v8 v9 v10 v11 v : Value} (F : Ω10 Z h a v0 v1 v2 v3 v4 v5 v6 v7 v8 v9 v10 v11) (W : Wr h h' a (Jvm.RoadKit.slotOf Z Q1 "open" "[J") v) : Ω10 Z h' a v0 v1 v2 v3 v4 v5 v6 v7 v v9 v10 v11 := ⟨F.1.wr W, fo F.2.1 W (la37 H) (la44 H) (by decide), fo F.2.2.1 W (la36 H) (la44 H) (by decide), fo F.2.2.2.1 W (la38 H) (la44 H) (by decide), fo F.2.2.2.2.1 W (la39 H) (la44 H) (by decide), fo F.2.2.2.2.2.1 W (la40 H) (la44 H) (by decide), fo F.2.2.2.2.2.2.1 W (la41 H) (la44 H) (by decide), fo F.2.2.2.2.2.2.2.1 W (la42 H) (la44 H) (by decide), fo F.2.2.2.2.2.2.2.2.1 W (la43 H) (la44 H) (by decide), F.2.2.2.2.2.2.2.2.2.1.same W, fo F.2.2.2.2.2.2.2.2.2.2.1 W (la45 H) (la44 H) (by decide), fo F.2.2.2.2.2.2.2.2.2.2.2.1 W (la46 H) (la44 H) (by decide), fo F.2.2.2.2.2.2.2.2.2.2.2.2 W (la47 H) (la44 H) (by decide)⟩
theorem Ω10.s9 (H : Hyp Z a0) {h h' : Heap} {a : Addr} {v0 v1 v2 v3 v4 v5 v6 v7 v8 v9 v10 v11 v : Value} (F : Ω10 Z h a v0 v1 v2 v3 v4 v5 v6 v7 v8 v9 v10 v11) (W : Wr h h' a (Jvm.RoadKit.slotOf Z Q1 "cellCount" "I") v) : Ω10 Z h' a v0 v1 v2 v3 v4 v5 v6 v7 v8 v v10 v11 := ⟨F.1.wr W, fo F.2.1 W (la37 H) (la45 H) (by decide), fo F.2.2.1 W (la36 H) (la45 H) (by decide), fo F.2.2.2.1 W (la38 H) (la45 H) (by decide), fo F.2.2.2.2.1 W (la39 H) (la45 H) (by decide), fo F.2.2.2.2.2.1 W (la40 H) (la45 H) (by decide), fo F.2.2.2.2.2.2.1 W (la41 H) (la45 H) (by decide), fo F.2.2.2.2.2.2.2.1 W (la42 H) (la45 H) (by decide), fo F.2.2.2.2.2.2.2.2.1 W (la43 H) (la45 H) (by decide), fo F.2.2.2.2.2.2.2.2.2.1 W (la44 H) (la45 H) (by decide), F.2.2.2.2.2.2.2.2.2.2.1.same W, fo F.2.2.2.2.2.2.2.2.2.2.2.1 W (la46 H) (la45 H) (by decide), fo F.2.2.2.2.2.2.2.2.2.2.2.2 W (la47 H) (la45 H) (by decide)⟩
theorem Ω10.s10 (H : Hyp Z a0) {h h' : Heap} {a : Addr} {v0 v1 v2 v3 v4 v5 v6 v7 v8 v9 v10 v11 v : Value} (F : Ω10 Z h a v0 v1 v2 v3 v4 v5 v6 v7 v8 v9 v10 v11) (W : Wr h h' a (Jvm.RoadKit.slotOf Z Q1 "room" "I") v) : Ω10 Z h' a v0 v1 v2 v3 v4 v5 v6 v7 v8 v9 v v11 := ⟨F.1.wr W, fo F.2.1 W (la37 H) (la46 H) (by decide), fo F.2.2.1 W (la36 H) (la46 H) (by decide), fo F.2.2.2.1 W (la38 H) (la46 H) (by decide), fo F.2.2.2.2.1 W (la39 H) (la46 H) (by decide), fo F.2.2.2.2.2.1 W (la40 H) (la46 H) (by decide), fo F.2.2.2.2.2.2.1 W (la41 H) (la46 H) (by decide), fo F.2.2.2.2.2.2.2.1 W (la42 H) (la46 H) (by decide), fo F.2.2.2.2.2.2.2.2.1 W (la43 H) (la46 H) (by decide), fo F.2.2.2.2.2.2.2.2.2.1 W (la44 H) (la46 H) (by decide), fo F.2.2.2.2.2.2.2.2.2.2.1 W (la45 H) (la46 H) (by decide), F.2.2.2.2.2.2.2.2.2.2.2.1.same W, fo F.2.2.2.2.2.2.2.2.2.2.2.2 W (la47 H) (la46 H) (by decide)⟩
theorem Ω10.s11 (H : Hyp Z a0) {h h' : Heap} {a : Addr} {v0 v1 v2 v3 v4 v5 v6 v7 v8 v9 v10 v11 v : Value} (F : Ω10 Z h a v0 v1 v2 v3 v4 v5 v6 v7 v8 v9 v10 v11) (W : Wr h h' a (Jvm.RoadKit.slotOf Z Q1 "limit" "I") v) : Ω10 Z h' a v0 v1 v2 v3 v4 v5 v6 v7 v8 v9 v10 v := ⟨F.1.wr W, fo F.2.1 W (la37 H) (la47 H) (by decide), fo F.2.2.1 W (la36 H) (la47 H) (by decide), fo F.2.2.2.1 W (la38 H) (la47 H) (by decide), fo F.2.2.2.2.1 W (la39 H) (la47 H) (by decide), fo F.2.2.2.2.2.1 W (la40 H) (la47 H) (by decide), fo F.2.2.2.2.2.2.1 W (la41 H) (la47 H) (by decide), fo F.2.2.2.2.2.2.2.1 W (la42 H) (la47 H) (by decide), fo F.2.2.2.2.2.2.2.2.1 W (la43 H) (la47 H) (by decide), fo F.2.2.2.2.2.2.2.2.2.1 W (la44 H) (la47 H) (by decide), fo F.2.2.2.2.2.2.2.2.2.2.1 W (la45 H) (la47 H) (by decide), fo F.2.2.2.2.2.2.2.2.2.2.2.1 W (la46 H) (la47 H) (by decide), F.2.2.2.2.2.2.2.2.2.2.2.2.same W⟩
def Ω11 (Z : State) (h : Heap) (a : Addr) (v0 v1 v2 v3 v4 v5 v6 v7 : Value) : Prop := Exa Z h a Q5 ∧ Fld Z h a Q5 "number" "I" v0 ∧ Fld Z h a Q5 "a" "I" v1 ∧ Fld Z h a Q5 "b" "I" v2 ∧ Fld Z h a Q5 "yes" "Z" v3 ∧ Fld Z h a Q5 "reason" Q29 v4 ∧ Fld Z h a Q5 "clue" Q31 v5 ∧ Fld Z h a Q5 "premises" "[I" v6 ∧ Fld Z h a Q5 "chain" Q30 v7
theorem Ω11.ext {h h' : Heap} {a : Addr} {v0 v1 v2 v3 v4 v5 v6 v7 : Value} (F : Ω11 Z h a v0 v1 v2 v3 v4 v5 v6 v7) (E : Ext h h') : Ω11 Z h' a v0 v1 v2 v3 v4 v5 v6 v7 := ⟨F.1.ext E, F.2.1.ext E, F.2.2.1.ext E, F.2.2.2.1.ext E, F.2.2.2.2.1.ext E, F.2.2.2.2.2.1.ext E, F.2.2.2.2.2.2.1.ext E, F.2.2.2.2.2.2.2.1.ext E, F.2.2.2.2.2.2.2.2.ext E⟩
theorem Ω11.keep {h h' : Heap} {a : Addr} {v0 v1 v2 v3 v4 v5 v6 v7 : Value} (F : Ω11 Z h a v0 v1 v2 v3 v4 v5 v6 v7) {ws : List Addr} (K : Keep h h' ws) (q : a ∉ ws) : Ω11 Z h' a v0 v1 v2 v3 v4 v5 v6 v7 := ⟨F.1.keep K, F.2.1.keep K q, F.2.2.1.keep K q, F.2.2.2.1.keep K q, F.2.2.2.2.1.keep K q, F.2.2.2.2.2.1.keep K q, F.2.2.2.2.2.2.1.keep K q, F.2.2.2.2.2.2.2.1.keep K q, F.2.2.2.2.2.2.2.2.keep K q⟩
theorem Ω11.other {h h' : Heap} {a : Addr} {v0 v1 v2 v3 v4 v5 v6 v7 : Value} (F : Ω11 Z h a v0 v1 v2 v3 v4 v5 v6 v7) {b : Addr} {sl : Nat} {v : Value} (W : Wr h h' b sl v) (q : a ≠ b) : Ω11 Z h' a v0 v1 v2 v3 v4 v5 v6 v7 := ⟨F.1.wr W, F.2.1.other W (Or.inl q), F.2.2.1.other W (Or.inl q), F.2.2.2.1.other W (Or.inl q), F.2.2.2.2.1.other W (Or.inl q), F.2.2.2.2.2.1.other W (Or.inl q), F.2.2.2.2.2.2.1.other W (Or.inl q), F.2.2.2.2.2.2.2.1.other W (Or.inl q), F.2.2.2.2.2.2.2.2.other W (Or.inl q)⟩
theorem Ω11.lt {h : Heap} {a : Addr} {v0 v1 v2 v3 v4 v5 v6 v7 : Value} (F : Ω11 Z h a v0 v1 v2 v3 v4 v5 v6 v7) : a < h.size := F.1.lt
theorem Ω11.new (H : Hyp Z a0) {h : Heap} {a : Addr} (A : Exa Z h a Q5) (D : ∀ {O nm d : String} {ty : FieldType}, Laid Z a0 Q5 O nm d → parseFieldDescriptor d = some ty → Fld Z h a O nm d (defaultValue ty)) : Ω11 Z h a (.int (0 : Int32)) (.int (0 : Int32)) (.int (0 : Int32)) (.int (0 : Int32)) .null .null .null .null := ⟨A, D (Or.inr (tw H 589 rfl)) (ty := .int) (by decide), D (Or.inr (tw H 591 rfl)) (ty := .int) (by decide), D (Or.inr (tw H 593 rfl)) (ty := .int) (by decide), D (Or.inr (tw H 595 rfl)) (ty := .boolean) (by decide), D (Or.inr (tw H 597 rfl)) (ty := (.object Q36)) (by decide), D (Or.inr (tw H 599 rfl)) (ty := (.object Q38)) (by decide), D (Or.inr (tw H 601 rfl)) (ty := (.array .int)) (by decide), D (Or.inr (tw H 603 rfl)) (ty := (.object Q37)) (by decide)⟩
theorem la48 (H : Hyp Z a0) : Lq Z a0 Q5 Q5 "a" "I" .int := ⟨(Or.inr (tw H 591 rfl)), by decide⟩
theorem la49 (H : Hyp Z a0) : Lq Z a0 Q5 Q5 "number" "I" .int := ⟨(Or.inr (tw H 589 rfl)), by decide⟩
theorem la50 (H : Hyp Z a0) : Lq Z a0 Q5 Q5 "b" "I" .int := ⟨(Or.inr (tw H 593 rfl)), by decide⟩
theorem la51 (H : Hyp Z a0) : Lq Z a0 Q5 Q5 "yes" "Z" .boolean := ⟨(Or.inr (tw H 595 rfl)), by decide⟩
theorem la52 (H : Hyp Z a0) : Lq Z a0 Q5 Q5 "reason" Q29 (.object Q36) := ⟨(Or.inr (tw H 597 rfl)), by decide⟩
theorem la53 (H : Hyp Z a0) : Lq Z a0 Q5 Q5 "clue" Q31 (.object Q38) := ⟨(Or.inr (tw H 599 rfl)), by decide⟩
theorem la54 (H : Hyp Z a0) : Lq Z a0 Q5 Q5 "premises" "[I" (.array .int) := ⟨(Or.inr (tw H 601 rfl)), by decide⟩
theorem la55 (H : Hyp Z a0) : Lq Z a0 Q5 Q5 "chain" Q30 (.object Q37) := ⟨(Or.inr (tw H 603 rfl)), by decide⟩
theorem Ω11.s0 (H : Hyp Z a0) {h h' : Heap} {a : Addr} {v0 v1 v2 v3 v4 v5 v6 v7 v : Value} (F : Ω11 Z h a v0 v1 v2 v3 v4 v5 v6 v7) (W : Wr h h' a (Jvm.RoadKit.slotOf Z Q5 "number" "I") v) : Ω11 Z h' a v v1 v2 v3 v4 v5 v6 v7 := ⟨F.1.wr W, F.2.1.same W, fo F.2.2.1 W (la48 H) (la49 H) (by decide), fo F.2.2.2.1 W (la50 H) (la49 H) (by decide), fo F.2.2.2.2.1 W (la51 H) (la49 H) (by decide), fo F.2.2.2.2.2.1 W (la52 H) (la49 H) (by decide), fo F.2.2.2.2.2.2.1 W (la53 H) (la49 H) (by decide), fo F.2.2.2.2.2.2.2.1 W (la54 H) (la49 H) (by decide), fo F.2.2.2.2.2.2.2.2 W (la55 H) (la49 H) (by decide)⟩
theorem Ω11.s1 (H : Hyp Z a0) {h h' : Heap} {a : Addr} {v0 v1 v2 v3 v4 v5 v6 v7 v : Value} (F : Ω11 Z h a v0 v1 v2 v3 v4 v5 v6 v7) (W : Wr h h' a (Jvm.RoadKit.slotOf Z Q5 "a" "I") v) : Ω11 Z h' a v0 v v2 v3 v4 v5 v6 v7 := ⟨F.1.wr W, fo F.2.1 W (la49 H) (la48 H) (by decide), F.2.2.1.same W, fo F.2.2.2.1 W (la50 H) (la48 H) (by decide), fo F.2.2.2.2.1 W (la51 H) (la48 H) (by decide), fo F.2.2.2.2.2.1 W (la52 H) (la48 H) (by decide), fo F.2.2.2.2.2.2.1 W (la53 H) (la48 H) (by decide), fo F.2.2.2.2.2.2.2.1 W (la54 H) (la48 H) (by decide), fo F.2.2.2.2.2.2.2.2 W (la55 H) (la48 H) (by decide)⟩
theorem Ω11.s2 (H : Hyp Z a0) {h h' : Heap} {a : Addr} {v0 v1 v2 v3 v4 v5 v6 v7 v : Value} (F : Ω11 Z h a v0 v1 v2 v3 v4 v5 v6 v7) (W : Wr h h' a (Jvm.RoadKit.slotOf Z Q5 "b" "I") v) : Ω11 Z h' a v0 v1 v v3 v4 v5 v6 v7 := ⟨F.1.wr W, fo F.2.1 W (la49 H) (la50 H) (by decide), fo F.2.2.1 W (la48 H) (la50 H) (by decide), F.2.2.2.1.same W, fo F.2.2.2.2.1 W (la51 H) (la50 H) (by decide), fo F.2.2.2.2.2.1 W (la52 H) (la50 H) (by decide), fo F.2.2.2.2.2.2.1 W (la53 H) (la50 H) (by decide), fo F.2.2.2.2.2.2.2.1 W (la54 H) (la50 H) (by decide), fo F.2.2.2.2.2.2.2.2 W (la55 H) (la50 H) (by decide)⟩
theorem Ω11.s3 (H : Hyp Z a0) {h h' : Heap} {a : Addr} {v0 v1 v2 v3 v4 v5 v6 v7 v : Value} (F : Ω11 Z h a v0 v1 v2 v3 v4 v5 v6 v7) (W : Wr h h' a (Jvm.RoadKit.slotOf Z Q5 "yes" "Z") v) : Ω11 Z h' a v0 v1 v2 v v4 v5 v6 v7 := ⟨F.1.wr W, fo F.2.1 W (la49 H) (la51 H) (by decide), fo F.2.2.1 W (la48 H) (la51 H) (by decide), fo F.2.2.2.1 W (la50 H) (la51 H) (by decide), F.2.2.2.2.1.same W, fo F.2.2.2.2.2.1 W (la52 H) (la51 H) (by decide), fo F.2.2.2.2.2.2.1 W (la53 H) (la51 H) (by decide), fo F.2.2.2.2.2.2.2.1 W (la54 H) (la51 H) (by decide), fo F.2.2.2.2.2.2.2.2 W (la55 H) (la51 H) (by decide)⟩
theorem Ω11.s4 (H : Hyp Z a0) {h h' : Heap} {a : Addr} {v0 v1 v2 v3 v4 v5 v6 v7 v : Value} (F : Ω11 Z h a v0 v1 v2 v3 v4 v5 v6 v7) (W : Wr h h' a (Jvm.RoadKit.slotOf Z Q5 "reason" Q29) v) : Ω11 Z h' a v0 v1 v2 v3 v v5 v6 v7 := ⟨F.1.wr W, fo F.2.1 W (la49 H) (la52 H) (by decide), fo F.2.2.1 W (la48 H) (la52 H) (by decide), fo F.2.2.2.1 W (la50 H) (la52 H) (by decide), fo F.2.2.2.2.1 W (la51 H) (la52 H) (by decide), F.2.2.2.2.2.1.same W, fo F.2.2.2.2.2.2.1 W (la53 H) (la52 H) (by decide), fo F.2.2.2.2.2.2.2.1 W (la54 H) (la52 H) (by decide), fo F.2.2.2.2.2.2.2.2 W (la55 H) (la52 H) (by decide)⟩
theorem Ω11.s5 (H : Hyp Z a0) {h h' : Heap} {a : Addr} {v0 v1 v2 v3 v4 v5 v6 v7 v : Value} (F : Ω11 Z h a v0 v1 v2 v3 v4 v5 v6 v7) (W : Wr h h' a (Jvm.RoadKit.slotOf Z Q5 "clue" Q31) v) : Ω11 Z h' a v0 v1 v2 v3 v4 v v6 v7 := ⟨F.1.wr W, fo F.2.1 W (la49 H) (la53 H) (by decide), fo F.2.2.1 W (la48 H) (la53 H) (by decide), fo F.2.2.2.1 W (la50 H) (la53 H) (by decide), fo F.2.2.2.2.1 W (la51 H) (la53 H) (by decide), fo F.2.2.2.2.2.1 W (la52 H) (la53 H) (by decide), F.2.2.2.2.2.2.1.same W, fo F.2.2.2.2.2.2.2.1 W (la54 H) (la53 H) (by decide), fo F.2.2.2.2.2.2.2.2 W (la55 H) (la53 H) (by decide)⟩
theorem Ω11.s6 (H : Hyp Z a0) {h h' : Heap} {a : Addr} {v0 v1 v2 v3 v4 v5 v6 v7 v : Value} (F : Ω11 Z h a v0 v1 v2 v3 v4 v5 v6 v7) (W : Wr h h' a (Jvm.RoadKit.slotOf Z Q5 "premises" "[I") v) : Ω11 Z h' a v0 v1 v2 v3 v4 v5 v v7 := ⟨F.1.wr W, fo F.2.1 W (la49 H) (la54 H) (by decide), fo F.2.2.1 W (la48 H) (la54 H) (by decide), fo F.2.2.2.1 W (la50 H) (la54 H) (by decide), fo F.2.2.2.2.1 W (la51 H) (la54 H) (by decide), fo F.2.2.2.2.2.1 W (la52 H) (la54 H) (by decide), fo F.2.2.2.2.2.2.1 W (la53 H) (la54 H) (by decide), F.2.2.2.2.2.2.2.1.same W, fo F.2.2.2.2.2.2.2.2 W (la55 H) (la54 H) (by decide)⟩
theorem Ω11.s7 (H : Hyp Z a0) {h h' : Heap} {a : Addr} {v0 v1 v2 v3 v4 v5 v6 v7 v : Value} (F : Ω11 Z h a v0 v1 v2 v3 v4 v5 v6 v7) (W : Wr h h' a (Jvm.RoadKit.slotOf Z Q5 "chain" Q30) v) : Ω11 Z h' a v0 v1 v2 v3 v4 v5 v6 v := ⟨F.1.wr W, fo F.2.1 W (la49 H) (la55 H) (by decide), fo F.2.2.1 W (la48 H) (la55 H) (by decide), fo F.2.2.2.1 W (la50 H) (la55 H) (by decide), fo F.2.2.2.2.1 W (la51 H) (la55 H) (by decide), fo F.2.2.2.2.2.1 W (la52 H) (la55 H) (by decide), fo F.2.2.2.2.2.2.1 W (la53 H) (la55 H) (by decide), fo F.2.2.2.2.2.2.2.1 W (la54 H) (la55 H) (by decide), F.2.2.2.2.2.2.2.2.same W⟩
end Facts
theorem d1_0 : Dc C61 0 (.aload_n 0) 1 := by decide +kernel
theorem d1_1 : Dc C61 1 (.invokespecial 1) 3 := by decide +kernel
theorem d1_4 : Dc C61 4 (.aload_n 0) 1 := by decide +kernel
theorem d1_5 : Dc C61 5 (.getstatic 39) 3 := by decide +kernel
theorem d1_8 : Dc C61 8 (.putfield 9) 3 := by decide +kernel
theorem d1_11 : Dc C61 11 (.return_) 1 := by decide +kernel
theorem d2_0 : Dc C62 0 (.aload_n 0) 1 := by decide +kernel
theorem d2_1 : Dc C62 1 (.invokespecial 1) 3 := by decide +kernel
theorem d2_4 : Dc C62 4 (.aload_n 0) 1 := by decide +kernel
theorem d2_5 : Dc C62 5 (.iconst 0) 1 := by decide +kernel
theorem d2_6 : Dc C62 6 (.putfield 7) 3 := by decide +kernel
theorem d2_9 : Dc C62 9 (.return_) 1 := by decide +kernel
theorem d3_0 : Dc C78 0 (.aload_n 0) 1 := by decide +kernel
theorem d3_1 : Dc C78 1 (.invokespecial 1) 3 := by decide +kernel
theorem d3_4 : Dc C78 4 (.return_) 1 := by decide +kernel
theorem d5_0 : Dc method_2_code 0 (.new 7) 3 := by decide +kernel
theorem d5_3 : Dc method_2_code 3 (.dup) 1 := by decide +kernel
theorem d5_4 : Dc method_2_code 4 (.invokespecial 9) 3 := by decide +kernel
theorem d5_7 : Dc method_2_code 7 (.astore_n 2) 1 := by decide +kernel
theorem d5_8 : Dc method_2_code 8 (.aload_n 2) 1 := by decide +kernel
theorem d5_9 : Dc method_2_code 9 (.iload_n 1) 1 := by decide +kernel
theorem d5_10 : Dc method_2_code 10 (.invokestatic 10) 3 := by decide +kernel
theorem d5_13 : Dc method_2_code 13 (.invokevirtual 16) 3 := by decide +kernel
theorem d5_16 : Dc method_2_code 16 (.pop) 1 := by decide +kernel
theorem d5_17 : Dc method_2_code 17 (.aload_n 2) 1 := by decide +kernel
theorem d5_18 : Dc method_2_code 18 (.iload_n 1) 1 := by decide +kernel
theorem d5_19 : Dc method_2_code 19 (.iconst 1) 1 := by decide +kernel
theorem d5_20 : Dc method_2_code 20 (.iadd) 1 := by decide +kernel
theorem d5_21 : Dc method_2_code 21 (.i2c) 1 := by decide +kernel
theorem d5_22 : Dc method_2_code 22 (.invokestatic 10) 3 := by decide +kernel
theorem d5_25 : Dc method_2_code 25 (.invokevirtual 16) 3 := by decide +kernel
theorem d5_28 : Dc method_2_code 28 (.pop) 1 := by decide +kernel
theorem d5_29 : Dc method_2_code 29 (.aload_n 2) 1 := by decide +kernel
theorem d5_30 : Dc method_2_code 30 (.iload_n 1) 1 := by decide +kernel
theorem d5_31 : Dc method_2_code 31 (.iconst 2) 1 := by decide +kernel
theorem d5_32 : Dc method_2_code 32 (.iadd) 1 := by decide +kernel
theorem d5_33 : Dc method_2_code 33 (.i2c) 1 := by decide +kernel
theorem d5_34 : Dc method_2_code 34 (.invokestatic 10) 3 := by decide +kernel
theorem d5_37 : Dc method_2_code 37 (.invokevirtual 16) 3 := by decide +kernel
theorem d5_40 : Dc method_2_code 40 (.pop) 1 := by decide +kernel
theorem d5_41 : Dc method_2_code 41 (.new 20) 3 := by decide +kernel
theorem d5_44 : Dc method_2_code 44 (.dup) 1 := by decide +kernel
theorem d5_45 : Dc method_2_code 45 (.aload_n 0) 1 := by decide +kernel
theorem d5_46 : Dc method_2_code 46 (.aload_n 2) 1 := by decide +kernel
theorem d5_47 : Dc method_2_code 47 (.invokespecial 22) 3 := by decide +kernel
theorem d5_50 : Dc method_2_code 50 (.areturn) 1 := by decide +kernel
theorem d6_0 : Dc C20 0 (.getstatic 38) 3 := by decide +kernel
theorem d6_3 : Dc C20 3 (.ifCond .eq 23) 3 := by decide +kernel
theorem d6_6 : Dc C20 6 (.iload_n 0) 1 := by decide +kernel
theorem d6_7 : Dc C20 7 (.invokestatic 1015) 3 := by decide +kernel
theorem d6_10 : Dc C20 10 (.ifCond .eq 16) 3 := by decide +kernel
theorem d6_13 : Dc C20 13 (.new 10) 3 := by decide +kernel
theorem d6_16 : Dc C20 16 (.dup) 1 := by decide +kernel
theorem d6_17 : Dc C20 17 (.iload_n 0) 1 := by decide +kernel
theorem d6_18 : Dc C20 18 (.invokestatic 1018) 3 := by decide +kernel
theorem d6_21 : Dc C20 21 (.iconst 0) 1 := by decide +kernel
theorem d6_22 : Dc C20 22 (.invokespecial 209) 3 := by decide +kernel
theorem d6_25 : Dc C20 25 (.areturn) 1 := by decide +kernel
theorem d7_0 : Dc C41 0 (.iload_n 0) 1 := by decide +kernel
theorem d7_1 : Dc C41 1 (.sipush 255) 3 := by decide +kernel
theorem d7_4 : Dc C41 4 (.if_icmp .gt 7) 3 := by decide +kernel
theorem d7_7 : Dc C41 7 (.iconst 1) 1 := by decide +kernel
theorem d7_8 : Dc C41 8 (.goto 4) 3 := by decide +kernel
theorem d7_12 : Dc C41 12 (.ireturn) 1 := by decide +kernel
theorem d8_0 : Dc C35 0 (.iconst 1) 1 := by decide +kernel
theorem d8_1 : Dc C35 1 (.newarray .byte) 2 := by decide +kernel
theorem d8_3 : Dc C35 3 (.dup) 1 := by decide +kernel
theorem d8_4 : Dc C35 4 (.iconst 0) 1 := by decide +kernel
theorem d8_5 : Dc C35 5 (.iload_n 0) 1 := by decide +kernel
theorem d8_6 : Dc C35 6 (.i2b) 1 := by decide +kernel
theorem d8_7 : Dc C35 7 (.bastore) 1 := by decide +kernel
theorem d8_8 : Dc C35 8 (.areturn) 1 := by decide +kernel
theorem d9_0 : Dc C43 0 (.aload_n 0) 1 := by decide +kernel
theorem d9_1 : Dc C43 1 (.invokespecial 1) 3 := by decide +kernel
theorem d9_4 : Dc C43 4 (.aload_n 0) 1 := by decide +kernel
theorem d9_5 : Dc C43 5 (.aload_n 1) 1 := by decide +kernel
theorem d9_6 : Dc C43 6 (.putfield 9) 3 := by decide +kernel
theorem d9_9 : Dc C43 9 (.aload_n 0) 1 := by decide +kernel
theorem d9_10 : Dc C43 10 (.iload_n 2) 1 := by decide +kernel
theorem d9_11 : Dc C43 11 (.putfield 15) 3 := by decide +kernel
theorem d9_14 : Dc C43 14 (.return_) 1 := by decide +kernel
theorem d10_0 : Dc C16 0 (.aload_n 0) 1 := by decide +kernel
theorem d10_1 : Dc C16 1 (.dup) 1 := by decide +kernel
theorem d10_2 : Dc C16 2 (.getfield 63) 3 := by decide +kernel
theorem d10_5 : Dc C16 5 (.iconst 1) 1 := by decide +kernel
theorem d10_6 : Dc C16 6 (.iadd) 1 := by decide +kernel
theorem d10_7 : Dc C16 7 (.putfield 63) 3 := by decide +kernel
theorem d10_10 : Dc C16 10 (.aload_n 0) 1 := by decide +kernel
theorem d10_11 : Dc C16 11 (.aload_n 1) 1 := by decide +kernel
theorem d10_12 : Dc C16 12 (.aload_n 0) 1 := by decide +kernel
theorem d10_13 : Dc C16 13 (.getfield 9) 3 := by decide +kernel
theorem d10_16 : Dc C16 16 (.aload_n 0) 1 := by decide +kernel
theorem d10_17 : Dc C16 17 (.getfield 48) 3 := by decide +kernel
theorem d10_20 : Dc C16 20 (.invokevirtual 131) 3 := by decide +kernel
theorem d10_23 : Dc C16 23 (.iconst 1) 1 := by decide +kernel
theorem d10_24 : Dc C16 24 (.ireturn) 1 := by decide +kernel
theorem d11_0 : Dc C15 0 (.iload_n 3) 1 := by decide +kernel
theorem d11_1 : Dc C15 1 (.aload_n 2) 1 := by decide +kernel
theorem d11_2 : Dc C15 2 (.arraylength) 1 := by decide +kernel
theorem d11_3 : Dc C15 3 (.if_icmp .ne 8) 3 := by decide +kernel
theorem d11_6 : Dc C15 6 (.aload_n 0) 1 := by decide +kernel
theorem d11_7 : Dc C15 7 (.invokevirtual 129) 3 := by decide +kernel
theorem d11_10 : Dc C15 10 (.astore_n 2) 1 := by decide +kernel
theorem d11_11 : Dc C15 11 (.aload_n 2) 1 := by decide +kernel
theorem d11_12 : Dc C15 12 (.iload_n 3) 1 := by decide +kernel
theorem d11_13 : Dc C15 13 (.aload_n 1) 1 := by decide +kernel
theorem d11_14 : Dc C15 14 (.aastore) 1 := by decide +kernel
theorem d11_15 : Dc C15 15 (.aload_n 0) 1 := by decide +kernel
theorem d11_16 : Dc C15 16 (.iload_n 3) 1 := by decide +kernel
theorem d11_17 : Dc C15 17 (.iconst 1) 1 := by decide +kernel
theorem d11_18 : Dc C15 18 (.iadd) 1 := by decide +kernel
theorem d11_19 : Dc C15 19 (.putfield 48) 3 := by decide +kernel
theorem d11_22 : Dc C15 22 (.return_) 1 := by decide +kernel
theorem d12_0 : Dc C57 0 (.aload_n 0) 1 := by decide +kernel
theorem d12_1 : Dc C57 1 (.aload_n 0) 1 := by decide +kernel
theorem d12_2 : Dc C57 2 (.getfield 48) 3 := by decide +kernel
theorem d12_5 : Dc C57 5 (.iconst 1) 1 := by decide +kernel
theorem d12_6 : Dc C57 6 (.iadd) 1 := by decide +kernel
theorem d12_7 : Dc C57 7 (.invokevirtual 69) 3 := by decide +kernel
theorem d12_10 : Dc C57 10 (.areturn) 1 := by decide +kernel
theorem d13_0 : Dc C21 0 (.aload_n 0) 1 := by decide +kernel
theorem d13_1 : Dc C21 1 (.getfield 9) 3 := by decide +kernel
theorem d13_4 : Dc C21 4 (.arraylength) 1 := by decide +kernel
theorem d13_5 : Dc C21 5 (.istore_n 2) 1 := by decide +kernel
theorem d13_6 : Dc C21 6 (.iload_n 2) 1 := by decide +kernel
theorem d13_7 : Dc C21 7 (.ifCond .gt 13) 3 := by decide +kernel
theorem d13_10 : Dc C21 10 (.aload_n 0) 1 := by decide +kernel
theorem d13_11 : Dc C21 11 (.getfield 9) 3 := by decide +kernel
theorem d13_14 : Dc C21 14 (.getstatic 39) 3 := by decide +kernel
theorem d13_17 : Dc C21 17 (.if_acmp .eq 28) 3 := by decide +kernel
theorem d13_45 : Dc C21 45 (.aload_n 0) 1 := by decide +kernel
theorem d13_46 : Dc C21 46 (.bipush 10) 2 := by decide +kernel
theorem d13_48 : Dc C21 48 (.iload_n 1) 1 := by decide +kernel
theorem d13_49 : Dc C21 49 (.invokestatic 79) 3 := by decide +kernel
theorem d13_52 : Dc C21 52 (.anewarray 7) 3 := by decide +kernel
theorem d13_55 : Dc C21 55 (.dup_x1) 1 := by decide +kernel
theorem d13_56 : Dc C21 56 (.putfield 9) 3 := by decide +kernel
theorem d13_59 : Dc C21 59 (.areturn) 1 := by decide +kernel
theorem d14_0 : Dc C50 0 (.iload_n 0) 1 := by decide +kernel
theorem d14_1 : Dc C50 1 (.iload_n 1) 1 := by decide +kernel
theorem d14_2 : Dc C50 2 (.if_icmp .lt 7) 3 := by decide +kernel
theorem d14_5 : Dc C50 5 (.iload_n 0) 1 := by decide +kernel
theorem d14_6 : Dc C50 6 (.goto 4) 3 := by decide +kernel
theorem d14_9 : Dc C50 9 (.iload_n 1) 1 := by decide +kernel
theorem d14_10 : Dc C50 10 (.ireturn) 1 := by decide +kernel
theorem d15_0 : Dc C38 0 (.aload_n 0) 1 := by decide +kernel
theorem d15_1 : Dc C38 1 (.invokespecial 1) 3 := by decide +kernel
theorem d15_4 : Dc C38 4 (.aload_n 2) 1 := by decide +kernel
theorem d15_5 : Dc C38 5 (.invokestatic 7) 3 := by decide +kernel
theorem d15_8 : Dc C38 8 (.astore_n 2) 1 := by decide +kernel
theorem d15_9 : Dc C38 9 (.aload_n 0) 1 := by decide +kernel
theorem d15_10 : Dc C38 10 (.aload_n 1) 1 := by decide +kernel
theorem d15_11 : Dc C38 11 (.putfield 13) 3 := by decide +kernel
theorem d15_14 : Dc C38 14 (.aload_n 0) 1 := by decide +kernel
theorem d15_15 : Dc C38 15 (.aload_n 2) 1 := by decide +kernel
theorem d15_16 : Dc C38 16 (.putfield 19) 3 := by decide +kernel
theorem d15_19 : Dc C38 19 (.return_) 1 := by decide +kernel
theorem d16_0 : Dc C79 0 (.aload_n 0) 1 := by decide +kernel
theorem d16_1 : Dc C79 1 (.invokespecial 1) 3 := by decide +kernel
theorem d16_4 : Dc C79 4 (.return_) 1 := by decide +kernel
theorem d17_0 : Dc C73 0 (.aload_n 0) 1 := by decide +kernel
theorem d17_1 : Dc C73 1 (.invokestatic 112) 3 := by decide +kernel
theorem d17_4 : Dc C73 4 (.areturn) 1 := by decide +kernel
theorem d18_0 : Dc C33 0 (.aload_n 0) 1 := by decide +kernel
theorem d18_1 : Dc C33 1 (.instanceof 10) 3 := by decide +kernel
theorem d18_4 : Dc C33 4 (.ifCond .ne 22) 3 := by decide +kernel
theorem d18_7 : Dc C33 7 (.aload_n 0) 1 := by decide +kernel
theorem d18_8 : Dc C33 8 (.instanceof 12) 3 := by decide +kernel
theorem d18_11 : Dc C33 11 (.ifCond .eq 20) 3 := by decide +kernel
theorem d18_31 : Dc C33 31 (.aload_n 0) 1 := by decide +kernel
theorem d18_32 : Dc C33 32 (.invokeinterface 20 1) 5 := by decide +kernel
theorem d18_37 : Dc C33 37 (.ifCond .eq 7) 3 := by decide +kernel
theorem d18_44 : Dc C33 44 (.aload_n 0) 1 := by decide +kernel
theorem d18_45 : Dc C33 45 (.invokeinterface 30 1) 5 := by decide +kernel
theorem d18_50 : Dc C33 50 (.invokestatic 34) 3 := by decide +kernel
theorem d18_53 : Dc C33 53 (.areturn) 1 := by decide +kernel
theorem d19_0 : Dc C63 0 (.aload_n 0) 1 := by decide +kernel
theorem d19_1 : Dc C63 1 (.getfield 48) 3 := by decide +kernel
theorem d19_4 : Dc C63 4 (.ifCond .ne 7) 3 := by decide +kernel
theorem d19_11 : Dc C63 11 (.iconst 0) 1 := by decide +kernel
theorem d19_12 : Dc C63 12 (.ireturn) 1 := by decide +kernel
theorem d20_0 : Dc C54 0 (.aload_n 0) 1 := by decide +kernel
theorem d20_1 : Dc C54 1 (.getfield 9) 3 := by decide +kernel
theorem d20_4 : Dc C54 4 (.aload_n 0) 1 := by decide +kernel
theorem d20_5 : Dc C54 5 (.getfield 48) 3 := by decide +kernel
theorem d20_8 : Dc C54 8 (.invokestatic 66) 3 := by decide +kernel
theorem d20_11 : Dc C54 11 (.areturn) 1 := by decide +kernel
theorem d21_0 : Dc C52 0 (.aload_n 0) 1 := by decide +kernel
theorem d21_1 : Dc C52 1 (.iload_n 1) 1 := by decide +kernel
theorem d21_2 : Dc C52 2 (.aload_n 0) 1 := by decide +kernel
theorem d21_3 : Dc C52 3 (.invokevirtual 86) 3 := by decide +kernel
theorem d21_6 : Dc C52 6 (.invokestatic 300) 3 := by decide +kernel
theorem d21_9 : Dc C52 9 (.areturn) 1 := by decide +kernel
theorem d22_0 : Dc C17 0 (.aload_n 2) 1 := by decide +kernel
theorem d22_1 : Dc C17 1 (.ldc 110) 2 := by decide +kernel
theorem d22_3 : Dc C17 3 (.if_acmp .ne 10) 3 := by decide +kernel
theorem d22_6 : Dc C17 6 (.iload_n 1) 1 := by decide +kernel
theorem d22_7 : Dc C17 7 (.anewarray 2) 3 := by decide +kernel
theorem d22_10 : Dc C17 10 (.goto 14) 3 := by decide +kernel
theorem d22_24 : Dc C17 24 (.astore_n 3) 1 := by decide +kernel
theorem d22_25 : Dc C17 25 (.aload_n 0) 1 := by decide +kernel
theorem d22_26 : Dc C17 26 (.iconst 0) 1 := by decide +kernel
theorem d22_27 : Dc C17 27 (.aload_n 3) 1 := by decide +kernel
theorem d22_28 : Dc C17 28 (.iconst 0) 1 := by decide +kernel
theorem d22_29 : Dc C17 29 (.aload_n 0) 1 := by decide +kernel
theorem d22_30 : Dc C17 30 (.arraylength) 1 := by decide +kernel
theorem d22_31 : Dc C17 31 (.iload_n 1) 1 := by decide +kernel
theorem d22_32 : Dc C17 32 (.invokestatic 304) 3 := by decide +kernel
theorem d22_35 : Dc C17 35 (.invokestatic 150) 3 := by decide +kernel
theorem d22_38 : Dc C17 38 (.aload_n 3) 1 := by decide +kernel
theorem d22_39 : Dc C17 39 (.areturn) 1 := by decide +kernel
theorem d23_0 : Dc C45 0 (.iload_n 0) 1 := by decide +kernel
theorem d23_1 : Dc C45 1 (.iload_n 1) 1 := by decide +kernel
theorem d23_2 : Dc C45 2 (.if_icmp .gt 7) 3 := by decide +kernel
theorem d23_5 : Dc C45 5 (.iload_n 0) 1 := by decide +kernel
theorem d23_6 : Dc C45 6 (.goto 4) 3 := by decide +kernel
theorem d23_9 : Dc C45 9 (.iload_n 1) 1 := by decide +kernel
theorem d23_10 : Dc C45 10 (.ireturn) 1 := by decide +kernel
theorem d24_0 : Dc C22 0 (.aload_n 0) 1 := by decide +kernel
theorem d24_1 : Dc C22 1 (.arraylength) 1 := by decide +kernel
theorem d24_2 : Dc C22 2 (.tableswitch 57 0 2 #[26, 32, 43]) 26 := by decide +kernel
theorem d24_45 : Dc C22 45 (.new 96) 3 := by decide +kernel
theorem d24_48 : Dc C22 48 (.dup) 1 := by decide +kernel
theorem d24_49 : Dc C22 49 (.aload_n 0) 1 := by decide +kernel
theorem d24_50 : Dc C22 50 (.iconst 0) 1 := by decide +kernel
theorem d24_51 : Dc C22 51 (.aaload) 1 := by decide +kernel
theorem d24_52 : Dc C22 52 (.aload_n 0) 1 := by decide +kernel
theorem d24_53 : Dc C22 53 (.iconst 1) 1 := by decide +kernel
theorem d24_54 : Dc C22 54 (.aaload) 1 := by decide +kernel
theorem d24_55 : Dc C22 55 (.invokespecial 100) 3 := by decide +kernel
theorem d24_58 : Dc C22 58 (.areturn) 1 := by decide +kernel
theorem d24_59 : Dc C22 59 (.aload_n 0) 1 := by decide +kernel
theorem d24_60 : Dc C22 60 (.invokestatic 109) 3 := by decide +kernel
theorem d24_63 : Dc C22 63 (.areturn) 1 := by decide +kernel
theorem d25_0 : Dc C12 0 (.aload_n 0) 1 := by decide +kernel
theorem d25_1 : Dc C12 1 (.arraylength) 1 := by decide +kernel
theorem d25_2 : Dc C12 2 (.anewarray 2) 3 := by decide +kernel
theorem d25_5 : Dc C12 5 (.astore_n 1) 1 := by decide +kernel
theorem d25_6 : Dc C12 6 (.iconst 0) 1 := by decide +kernel
theorem d25_7 : Dc C12 7 (.istore_n 2) 1 := by decide +kernel
theorem d25_8 : Dc C12 8 (.iload_n 2) 1 := by decide +kernel
theorem d25_9 : Dc C12 9 (.aload_n 0) 1 := by decide +kernel
theorem d25_10 : Dc C12 10 (.arraylength) 1 := by decide +kernel
theorem d25_11 : Dc C12 11 (.if_icmp .ge 18) 3 := by decide +kernel
theorem d25_14 : Dc C12 14 (.aload_n 1) 1 := by decide +kernel
theorem d25_15 : Dc C12 15 (.iload_n 2) 1 := by decide +kernel
theorem d25_16 : Dc C12 16 (.aload_n 0) 1 := by decide +kernel
theorem d25_17 : Dc C12 17 (.iload_n 2) 1 := by decide +kernel
theorem d25_18 : Dc C12 18 (.aaload) 1 := by decide +kernel
theorem d25_19 : Dc C12 19 (.invokestatic 37) 3 := by decide +kernel
theorem d25_22 : Dc C12 22 (.aastore) 1 := by decide +kernel
theorem d25_23 : Dc C12 23 (.iinc 2 1) 3 := by decide +kernel
theorem d25_26 : Dc C12 26 (.goto (-18)) 3 := by decide +kernel
theorem d25_29 : Dc C12 29 (.new 12) 3 := by decide +kernel
theorem d25_32 : Dc C12 32 (.dup) 1 := by decide +kernel
theorem d25_33 : Dc C12 33 (.aload_n 1) 1 := by decide +kernel
theorem d25_34 : Dc C12 34 (.iconst 0) 1 := by decide +kernel
theorem d25_35 : Dc C12 35 (.invokespecial 43) 3 := by decide +kernel
theorem d25_38 : Dc C12 38 (.areturn) 1 := by decide +kernel
theorem d26_0 : Dc C74 0 (.aload_n 0) 1 := by decide +kernel
theorem d26_1 : Dc C74 1 (.ifnonnull 11) 3 := by decide +kernel
theorem d26_12 : Dc C74 12 (.aload_n 0) 1 := by decide +kernel
theorem d26_13 : Dc C74 13 (.areturn) 1 := by decide +kernel
theorem d27_0 : Dc C47 0 (.aload_n 0) 1 := by decide +kernel
theorem d27_1 : Dc C47 1 (.invokespecial 1) 3 := by decide +kernel
theorem d27_4 : Dc C47 4 (.aload_n 0) 1 := by decide +kernel
theorem d27_5 : Dc C47 5 (.aload_n 1) 1 := by decide +kernel
theorem d27_6 : Dc C47 6 (.putfield 7) 3 := by decide +kernel
theorem d27_9 : Dc C47 9 (.aload_n 0) 1 := by decide +kernel
theorem d27_10 : Dc C47 10 (.iload_n 2) 1 := by decide +kernel
theorem d27_11 : Dc C47 11 (.putfield 13) 3 := by decide +kernel
theorem d27_14 : Dc C47 14 (.return_) 1 := by decide +kernel
theorem d28_0 : Dc C80 0 (.aload_n 0) 1 := by decide +kernel
theorem d28_1 : Dc C80 1 (.invokespecial 1) 3 := by decide +kernel
theorem d28_4 : Dc C80 4 (.return_) 1 := by decide +kernel
theorem d29_0 : Dc C81 0 (.aload_n 0) 1 := by decide +kernel
theorem d29_1 : Dc C81 1 (.invokespecial 1) 3 := by decide +kernel
theorem d29_4 : Dc C81 4 (.return_) 1 := by decide +kernel
theorem d30_0 : Dc C2 0 (.aload_n 0) 1 := by decide +kernel
theorem d30_1 : Dc C2 1 (.invokespecial 1) 3 := by decide +kernel
theorem d30_4 : Dc C2 4 (.aload_n 0) 1 := by decide +kernel
theorem d30_5 : Dc C2 5 (.new 7) 3 := by decide +kernel
theorem d30_8 : Dc C2 8 (.dup) 1 := by decide +kernel
theorem d30_9 : Dc C2 9 (.invokespecial 9) 3 := by decide +kernel
theorem d30_12 : Dc C2 12 (.putfield 10) 3 := by decide +kernel
theorem d30_15 : Dc C2 15 (.aload_n 0) 1 := by decide +kernel
theorem d30_16 : Dc C2 16 (.new 16) 3 := by decide +kernel
theorem d30_19 : Dc C2 19 (.dup) 1 := by decide +kernel
theorem d30_20 : Dc C2 20 (.invokespecial 18) 3 := by decide +kernel
theorem d30_23 : Dc C2 23 (.putfield 19) 3 := by decide +kernel
theorem d30_26 : Dc C2 26 (.aload_n 0) 1 := by decide +kernel
theorem d30_27 : Dc C2 27 (.aload_n 1) 1 := by decide +kernel
theorem d30_28 : Dc C2 28 (.putfield 23) 3 := by decide +kernel
theorem d30_31 : Dc C2 31 (.aload_n 0) 1 := by decide +kernel
theorem d30_32 : Dc C2 32 (.aload_n 2) 1 := by decide +kernel
theorem d30_33 : Dc C2 33 (.invokestatic 27) 3 := by decide +kernel
theorem d30_36 : Dc C2 36 (.putfield 33) 3 := by decide +kernel
theorem d30_39 : Dc C2 39 (.aload_n 0) 1 := by decide +kernel
theorem d30_40 : Dc C2 40 (.aload_n 2) 1 := by decide +kernel
theorem d30_41 : Dc C2 41 (.iconst 0) 1 := by decide +kernel
theorem d30_42 : Dc C2 42 (.invokeinterface 36 2) 5 := by decide +kernel
theorem d30_47 : Dc C2 47 (.checkcast 40) 3 := by decide +kernel
theorem d30_50 : Dc C2 50 (.invokevirtual 42) 3 := by decide +kernel
theorem d30_53 : Dc C2 53 (.invokeinterface 45 1) 5 := by decide +kernel
theorem d30_58 : Dc C2 58 (.putfield 49) 3 := by decide +kernel
theorem d30_61 : Dc C2 61 (.aload_n 0) 1 := by decide +kernel
theorem d30_62 : Dc C2 62 (.aload_n 2) 1 := by decide +kernel
theorem d30_63 : Dc C2 63 (.invokeinterface 45 1) 5 := by decide +kernel
theorem d30_68 : Dc C2 68 (.aload_n 0) 1 := by decide +kernel
theorem d30_69 : Dc C2 69 (.getfield 49) 3 := by decide +kernel
theorem d30_72 : Dc C2 72 (.imul) 1 := by decide +kernel
theorem d30_73 : Dc C2 73 (.anewarray 52) 3 := by decide +kernel
theorem d30_76 : Dc C2 76 (.putfield 54) 3 := by decide +kernel
theorem d30_79 : Dc C2 79 (.iconst 0) 1 := by decide +kernel
theorem d30_80 : Dc C2 80 (.istore_n 3) 1 := by decide +kernel
theorem d30_81 : Dc C2 81 (.aload_n 2) 1 := by decide +kernel
theorem d30_82 : Dc C2 82 (.invokeinterface 58 1) 5 := by decide +kernel
theorem d30_87 : Dc C2 87 (.astore 4) 2 := by decide +kernel
theorem d30_89 : Dc C2 89 (.aload 4) 2 := by decide +kernel
theorem d30_91 : Dc C2 91 (.invokeinterface 62 1) 5 := by decide +kernel
theorem d30_96 : Dc C2 96 (.ifCond .eq 82) 3 := by decide +kernel
theorem d30_99 : Dc C2 99 (.aload 4) 2 := by decide +kernel
theorem d30_101 : Dc C2 101 (.invokeinterface 68 1) 5 := by decide +kernel
theorem d30_106 : Dc C2 106 (.checkcast 40) 3 := by decide +kernel
theorem d30_109 : Dc C2 109 (.astore 5) 2 := by decide +kernel
theorem d30_111 : Dc C2 111 (.aload 5) 2 := by decide +kernel
theorem d30_113 : Dc C2 113 (.invokevirtual 42) 3 := by decide +kernel
theorem d30_116 : Dc C2 116 (.invokeinterface 58 1) 5 := by decide +kernel
theorem d30_121 : Dc C2 121 (.astore 6) 2 := by decide +kernel
theorem d30_123 : Dc C2 123 (.aload 6) 2 := by decide +kernel
theorem d30_125 : Dc C2 125 (.invokeinterface 62 1) 5 := by decide +kernel
theorem d30_130 : Dc C2 130 (.ifCond .eq 45) 3 := by decide +kernel
theorem d30_133 : Dc C2 133 (.aload 6) 2 := by decide +kernel
theorem d30_135 : Dc C2 135 (.invokeinterface 68 1) 5 := by decide +kernel
theorem d30_140 : Dc C2 140 (.checkcast 52) 3 := by decide +kernel
theorem d30_143 : Dc C2 143 (.astore 7) 2 := by decide +kernel
theorem d30_145 : Dc C2 145 (.aload_n 0) 1 := by decide +kernel
theorem d30_146 : Dc C2 146 (.getfield 54) 3 := by decide +kernel
theorem d30_149 : Dc C2 149 (.iload_n 3) 1 := by decide +kernel
theorem d30_150 : Dc C2 150 (.aload 7) 2 := by decide +kernel
theorem d30_152 : Dc C2 152 (.aastore) 1 := by decide +kernel
theorem d30_153 : Dc C2 153 (.aload_n 0) 1 := by decide +kernel
theorem d30_154 : Dc C2 154 (.getfield 10) 3 := by decide +kernel
theorem d30_157 : Dc C2 157 (.aload 7) 2 := by decide +kernel
theorem d30_159 : Dc C2 159 (.iload_n 3) 1 := by decide +kernel
theorem d30_160 : Dc C2 160 (.invokestatic 72) 3 := by decide +kernel
theorem d30_163 : Dc C2 163 (.invokeinterface 78 3) 5 := by decide +kernel
theorem d30_168 : Dc C2 168 (.pop) 1 := by decide +kernel
theorem d30_169 : Dc C2 169 (.iinc 3 1) 3 := by decide +kernel
theorem d30_172 : Dc C2 172 (.goto (-49)) 3 := by decide +kernel
theorem d30_175 : Dc C2 175 (.goto (-86)) 3 := by decide +kernel
theorem d30_178 : Dc C2 178 (.return_) 1 := by decide +kernel
theorem d31_0 : Dc C64 0 (.aload_n 0) 1 := by decide +kernel
theorem d31_1 : Dc C64 1 (.invokespecial 43) 3 := by decide +kernel
theorem d31_4 : Dc C64 4 (.aload_n 0) 1 := by decide +kernel
theorem d31_5 : Dc C64 5 (.ldc 92) 2 := by decide +kernel
theorem d31_7 : Dc C64 7 (.putfield 81) 3 := by decide +kernel
theorem d31_10 : Dc C64 10 (.return_) 1 := by decide +kernel
theorem d32_0 : Dc C82 0 (.aload_n 0) 1 := by decide +kernel
theorem d32_1 : Dc C82 1 (.invokespecial 1) 3 := by decide +kernel
theorem d32_4 : Dc C82 4 (.return_) 1 := by decide +kernel
theorem d33_0 : Dc C42 0 (.aload_n 0) 1 := by decide +kernel
theorem d33_1 : Dc C42 1 (.invokespecial 1) 3 := by decide +kernel
theorem d33_4 : Dc C42 4 (.aload_n 0) 1 := by decide +kernel
theorem d33_5 : Dc C42 5 (.aload_n 1) 1 := by decide +kernel
theorem d33_6 : Dc C42 6 (.invokestatic 7) 3 := by decide +kernel
theorem d33_9 : Dc C42 9 (.putfield 13) 3 := by decide +kernel
theorem d33_12 : Dc C42 12 (.aload_n 0) 1 := by decide +kernel
theorem d33_13 : Dc C42 13 (.aload_n 2) 1 := by decide +kernel
theorem d33_14 : Dc C42 14 (.invokestatic 7) 3 := by decide +kernel
theorem d33_17 : Dc C42 17 (.putfield 24) 3 := by decide +kernel
theorem d33_20 : Dc C42 20 (.return_) 1 := by decide +kernel
theorem d34_0 : Dc C46 0 (.iload_n 1) 1 := by decide +kernel
theorem d34_1 : Dc C46 1 (.aload_n 0) 1 := by decide +kernel
theorem d34_2 : Dc C46 2 (.getfield 48) 3 := by decide +kernel
theorem d34_5 : Dc C46 5 (.invokestatic 118) 3 := by decide +kernel
theorem d34_8 : Dc C46 8 (.pop) 1 := by decide +kernel
theorem d34_9 : Dc C46 9 (.aload_n 0) 1 := by decide +kernel
theorem d34_10 : Dc C46 10 (.iload_n 1) 1 := by decide +kernel
theorem d34_11 : Dc C46 11 (.invokevirtual 123) 3 := by decide +kernel
theorem d34_14 : Dc C46 14 (.areturn) 1 := by decide +kernel
theorem d35_0 : Dc C67 0 (.iload_n 0) 1 := by decide +kernel
theorem d35_1 : Dc C67 1 (.iload_n 1) 1 := by decide +kernel
theorem d35_2 : Dc C67 2 (.aconst_null) 1 := by decide +kernel
theorem d35_3 : Dc C67 3 (.invokestatic 105) 3 := by decide +kernel
theorem d35_6 : Dc C67 6 (.ireturn) 1 := by decide +kernel
theorem d36_0 : Dc C55 0 (.iload_n 0) 1 := by decide +kernel
theorem d36_1 : Dc C55 1 (.ifCond .lt 8) 3 := by decide +kernel
theorem d36_4 : Dc C55 4 (.iload_n 0) 1 := by decide +kernel
theorem d36_5 : Dc C55 5 (.iload_n 1) 1 := by decide +kernel
theorem d36_6 : Dc C55 6 (.if_icmp .lt 10) 3 := by decide +kernel
theorem d36_16 : Dc C55 16 (.iload_n 0) 1 := by decide +kernel
theorem d36_17 : Dc C55 17 (.ireturn) 1 := by decide +kernel
theorem d37_0 : Dc C68 0 (.aload_n 0) 1 := by decide +kernel
theorem d37_1 : Dc C68 1 (.getfield 9) 3 := by decide +kernel
theorem d37_4 : Dc C68 4 (.iload_n 1) 1 := by decide +kernel
theorem d37_5 : Dc C68 5 (.aaload) 1 := by decide +kernel
theorem d37_6 : Dc C68 6 (.areturn) 1 := by decide +kernel
theorem d38_0 : Dc C83 0 (.aload_n 0) 1 := by decide +kernel
theorem d38_1 : Dc C83 1 (.getfield 19) 3 := by decide +kernel
theorem d38_4 : Dc C83 4 (.areturn) 1 := by decide +kernel
theorem d39_0 : Dc C76 0 (.aload_n 0) 1 := by decide +kernel
theorem d39_1 : Dc C76 1 (.getfield 7) 3 := by decide +kernel
theorem d39_4 : Dc C76 4 (.arraylength) 1 := by decide +kernel
theorem d39_5 : Dc C76 5 (.ireturn) 1 := by decide +kernel
theorem d40_0 : Dc C70 0 (.aload_n 0) 1 := by decide +kernel
theorem d40_1 : Dc C70 1 (.getfield 48) 3 := by decide +kernel
theorem d40_4 : Dc C70 4 (.ireturn) 1 := by decide +kernel
theorem d41_0 : Dc C69 0 (.new 267) 3 := by decide +kernel
theorem d41_3 : Dc C69 3 (.dup) 1 := by decide +kernel
theorem d41_4 : Dc C69 4 (.aload_n 0) 1 := by decide +kernel
theorem d41_5 : Dc C69 5 (.invokespecial 269) 3 := by decide +kernel
theorem d41_8 : Dc C69 8 (.areturn) 1 := by decide +kernel
theorem d42_0 : Dc C34 0 (.aload_n 0) 1 := by decide +kernel
theorem d42_1 : Dc C34 1 (.aload_n 1) 1 := by decide +kernel
theorem d42_2 : Dc C34 2 (.putfield 1) 3 := by decide +kernel
theorem d42_5 : Dc C34 5 (.aload_n 0) 1 := by decide +kernel
theorem d42_6 : Dc C34 6 (.invokespecial 7) 3 := by decide +kernel
theorem d42_9 : Dc C34 9 (.aload_n 0) 1 := by decide +kernel
theorem d42_10 : Dc C34 10 (.iconst (-1)) 1 := by decide +kernel
theorem d42_11 : Dc C34 11 (.putfield 13) 3 := by decide +kernel
theorem d42_14 : Dc C34 14 (.aload_n 0) 1 := by decide +kernel
theorem d42_15 : Dc C34 15 (.aload_n 0) 1 := by decide +kernel
theorem d42_16 : Dc C34 16 (.getfield 1) 3 := by decide +kernel
theorem d42_19 : Dc C34 19 (.getfield 17) 3 := by decide +kernel
theorem d42_22 : Dc C34 22 (.putfield 22) 3 := by decide +kernel
theorem d42_25 : Dc C34 25 (.return_) 1 := by decide +kernel
theorem d43_0 : Dc C39 0 (.aload_n 0) 1 := by decide +kernel
theorem d43_1 : Dc C39 1 (.getfield 25) 3 := by decide +kernel
theorem d43_4 : Dc C39 4 (.aload_n 0) 1 := by decide +kernel
theorem d43_5 : Dc C39 5 (.getfield 1) 3 := by decide +kernel
theorem d43_8 : Dc C39 8 (.getfield 28) 3 := by decide +kernel
theorem d43_11 : Dc C39 11 (.if_icmp .eq 7) 3 := by decide +kernel
theorem d43_14 : Dc C39 14 (.iconst 1) 1 := by decide +kernel
theorem d43_15 : Dc C39 15 (.goto 4) 3 := by decide +kernel
theorem d43_18 : Dc C39 18 (.iconst 0) 1 := by decide +kernel
theorem d43_19 : Dc C39 19 (.ireturn) 1 := by decide +kernel
theorem d44_0 : Dc C7 0 (.aload_n 0) 1 := by decide +kernel
theorem d44_1 : Dc C7 1 (.invokevirtual 31) 3 := by decide +kernel
theorem d44_4 : Dc C7 4 (.aload_n 0) 1 := by decide +kernel
theorem d44_5 : Dc C7 5 (.getfield 25) 3 := by decide +kernel
theorem d44_8 : Dc C7 8 (.istore_n 1) 1 := by decide +kernel
theorem d44_9 : Dc C7 9 (.iload_n 1) 1 := by decide +kernel
theorem d44_10 : Dc C7 10 (.aload_n 0) 1 := by decide +kernel
theorem d44_11 : Dc C7 11 (.getfield 1) 3 := by decide +kernel
theorem d44_14 : Dc C7 14 (.getfield 28) 3 := by decide +kernel
theorem d44_17 : Dc C7 17 (.if_icmp .lt 11) 3 := by decide +kernel
theorem d44_28 : Dc C7 28 (.aload_n 0) 1 := by decide +kernel
theorem d44_29 : Dc C7 29 (.getfield 1) 3 := by decide +kernel
theorem d44_32 : Dc C7 32 (.getfield 37) 3 := by decide +kernel
theorem d44_35 : Dc C7 35 (.astore_n 2) 1 := by decide +kernel
theorem d44_36 : Dc C7 36 (.iload_n 1) 1 := by decide +kernel
theorem d44_37 : Dc C7 37 (.aload_n 2) 1 := by decide +kernel
theorem d44_38 : Dc C7 38 (.arraylength) 1 := by decide +kernel
theorem d44_39 : Dc C7 39 (.if_icmp .lt 11) 3 := by decide +kernel
theorem d44_50 : Dc C7 50 (.aload_n 0) 1 := by decide +kernel
theorem d44_51 : Dc C7 51 (.iload_n 1) 1 := by decide +kernel
theorem d44_52 : Dc C7 52 (.iconst 1) 1 := by decide +kernel
theorem d44_53 : Dc C7 53 (.iadd) 1 := by decide +kernel
theorem d44_54 : Dc C7 54 (.putfield 25) 3 := by decide +kernel
theorem d44_57 : Dc C7 57 (.aload_n 2) 1 := by decide +kernel
theorem d44_58 : Dc C7 58 (.aload_n 0) 1 := by decide +kernel
theorem d44_59 : Dc C7 59 (.iload_n 1) 1 := by decide +kernel
theorem d44_60 : Dc C7 60 (.dup_x1) 1 := by decide +kernel
theorem d44_61 : Dc C7 61 (.putfield 13) 3 := by decide +kernel
theorem d44_64 : Dc C7 64 (.aaload) 1 := by decide +kernel
theorem d44_65 : Dc C7 65 (.areturn) 1 := by decide +kernel
theorem d45_0 : Dc C51 0 (.aload_n 0) 1 := by decide +kernel
theorem d45_1 : Dc C51 1 (.getfield 1) 3 := by decide +kernel
theorem d45_4 : Dc C51 4 (.getfield 17) 3 := by decide +kernel
theorem d45_7 : Dc C51 7 (.aload_n 0) 1 := by decide +kernel
theorem d45_8 : Dc C51 8 (.getfield 22) 3 := by decide +kernel
theorem d45_11 : Dc C51 11 (.if_icmp .eq 11) 3 := by decide +kernel
theorem d45_22 : Dc C51 22 (.return_) 1 := by decide +kernel
theorem d46_0 : Dc C56 0 (.new 61) 3 := by decide +kernel
theorem d46_3 : Dc C56 3 (.dup) 1 := by decide +kernel
theorem d46_4 : Dc C56 4 (.aload_n 0) 1 := by decide +kernel
theorem d46_5 : Dc C56 5 (.aload_n 0) 1 := by decide +kernel
theorem d46_6 : Dc C56 6 (.invokevirtual 13) 3 := by decide +kernel
theorem d46_9 : Dc C56 9 (.invokespecial 63) 3 := by decide +kernel
theorem d46_12 : Dc C56 12 (.areturn) 1 := by decide +kernel
theorem d47_0 : Dc C31 0 (.aload_n 0) 1 := by decide +kernel
theorem d47_1 : Dc C31 1 (.invokespecial 1) 3 := by decide +kernel
theorem d47_4 : Dc C31 4 (.aload_n 0) 1 := by decide +kernel
theorem d47_5 : Dc C31 5 (.aload_n 1) 1 := by decide +kernel
theorem d47_6 : Dc C31 6 (.putfield 7) 3 := by decide +kernel
theorem d47_9 : Dc C31 9 (.aload_n 0) 1 := by decide +kernel
theorem d47_10 : Dc C31 10 (.iload_n 2) 1 := by decide +kernel
theorem d47_11 : Dc C31 11 (.putfield 13) 3 := by decide +kernel
theorem d47_14 : Dc C31 14 (.aload_n 0) 1 := by decide +kernel
theorem d47_15 : Dc C31 15 (.iconst 0) 1 := by decide +kernel
theorem d47_16 : Dc C31 16 (.putfield 17) 3 := by decide +kernel
theorem d47_19 : Dc C31 19 (.aload_n 0) 1 := by decide +kernel
theorem d47_20 : Dc C31 20 (.iconst 0) 1 := by decide +kernel
theorem d47_21 : Dc C31 21 (.putfield 20) 3 := by decide +kernel
theorem d47_24 : Dc C31 24 (.return_) 1 := by decide +kernel
theorem d48_0 : Dc C40 0 (.aload_n 0) 1 := by decide +kernel
theorem d48_1 : Dc C40 1 (.getfield 17) 3 := by decide +kernel
theorem d48_4 : Dc C40 4 (.aload_n 0) 1 := by decide +kernel
theorem d48_5 : Dc C40 5 (.getfield 13) 3 := by decide +kernel
theorem d48_8 : Dc C40 8 (.if_icmp .eq 7) 3 := by decide +kernel
theorem d48_11 : Dc C40 11 (.iconst 1) 1 := by decide +kernel
theorem d48_12 : Dc C40 12 (.goto 4) 3 := by decide +kernel
theorem d48_15 : Dc C40 15 (.iconst 0) 1 := by decide +kernel
theorem d48_16 : Dc C40 16 (.ireturn) 1 := by decide +kernel
theorem d49_0 : Dc C24 0 (.aload_n 0) 1 := by decide +kernel
theorem d49_1 : Dc C24 1 (.getfield 17) 3 := by decide +kernel
theorem d49_4 : Dc C24 4 (.istore_n 1) 1 := by decide +kernel
theorem d49_5 : Dc C24 5 (.aload_n 0) 1 := by decide +kernel
theorem d49_6 : Dc C24 6 (.getfield 7) 3 := by decide +kernel
theorem d49_9 : Dc C24 9 (.iload_n 1) 1 := by decide +kernel
theorem d49_10 : Dc C24 10 (.invokeinterface 24 2) 5 := by decide +kernel
theorem d49_15 : Dc C24 15 (.astore_n 2) 1 := by decide +kernel
theorem d49_16 : Dc C24 16 (.aload_n 0) 1 := by decide +kernel
theorem d49_17 : Dc C24 17 (.iload_n 1) 1 := by decide +kernel
theorem d49_18 : Dc C24 18 (.iconst 1) 1 := by decide +kernel
theorem d49_19 : Dc C24 19 (.iadd) 1 := by decide +kernel
theorem d49_20 : Dc C24 20 (.putfield 17) 3 := by decide +kernel
theorem d49_23 : Dc C24 23 (.aload_n 2) 1 := by decide +kernel
theorem d49_24 : Dc C24 24 (.areturn) 1 := by decide +kernel
theorem d50_0 : Dc C58 0 (.aload_n 0) 1 := by decide +kernel
theorem d50_1 : Dc C58 1 (.getfield 7) 3 := by decide +kernel
theorem d50_4 : Dc C58 4 (.iload_n 1) 1 := by decide +kernel
theorem d50_5 : Dc C58 5 (.aaload) 1 := by decide +kernel
theorem d50_6 : Dc C58 6 (.areturn) 1 := by decide +kernel
theorem d51_0 : Dc C23 0 (.iload_n 0) 1 := by decide +kernel
theorem d51_1 : Dc C23 1 (.bipush (-128)) 2 := by decide +kernel
theorem d51_3 : Dc C23 3 (.if_icmp .lt 20) 3 := by decide +kernel
theorem d51_6 : Dc C23 6 (.iload_n 0) 1 := by decide +kernel
theorem d51_7 : Dc C23 7 (.getstatic 191) 3 := by decide +kernel
theorem d51_10 : Dc C23 10 (.if_icmp .gt 13) 3 := by decide +kernel
theorem d51_13 : Dc C23 13 (.getstatic 195) 3 := by decide +kernel
theorem d51_16 : Dc C23 16 (.iload_n 0) 1 := by decide +kernel
theorem d51_17 : Dc C23 17 (.sipush 128) 3 := by decide +kernel
theorem d51_20 : Dc C23 20 (.iadd) 1 := by decide +kernel
theorem d51_21 : Dc C23 21 (.aaload) 1 := by decide +kernel
theorem d51_22 : Dc C23 22 (.areturn) 1 := by decide +kernel
theorem d52_0 : Dc C32 0 (.aload_n 0) 1 := by decide +kernel
theorem d52_1 : Dc C32 1 (.aload_n 1) 1 := by decide +kernel
theorem d52_2 : Dc C32 2 (.invokestatic 149) 3 := by decide +kernel
theorem d52_5 : Dc C32 5 (.aload_n 1) 1 := by decide +kernel
theorem d52_6 : Dc C32 6 (.aload_n 2) 1 := by decide +kernel
theorem d52_7 : Dc C32 7 (.iconst 0) 1 := by decide +kernel
theorem d52_8 : Dc C32 8 (.iconst 1) 1 := by decide +kernel
theorem d52_9 : Dc C32 9 (.invokevirtual 152) 3 := by decide +kernel
theorem d52_12 : Dc C32 12 (.areturn) 1 := by decide +kernel
theorem d53_0 : Dc C27 0 (.aload_n 0) 1 := by decide +kernel
theorem d53_1 : Dc C27 1 (.ifnonnull 7) 3 := by decide +kernel
theorem d53_8 : Dc C27 8 (.aload_n 0) 1 := by decide +kernel
theorem d53_9 : Dc C27 9 (.invokevirtual 1) 3 := by decide +kernel
theorem d53_12 : Dc C27 12 (.dup) 1 := by decide +kernel
theorem d53_13 : Dc C27 13 (.istore_n 1) 1 := by decide +kernel
theorem d53_14 : Dc C27 14 (.iload_n 1) 1 := by decide +kernel
theorem d53_15 : Dc C27 15 (.bipush 16) 2 := by decide +kernel
theorem d53_17 : Dc C27 17 (.iushr) 1 := by decide +kernel
theorem d53_18 : Dc C27 18 (.ixor) 1 := by decide +kernel
theorem d53_19 : Dc C27 19 (.ireturn) 1 := by decide +kernel
theorem d54_0 : Dc C8 0 (.aload_n 0) 1 := by decide +kernel
theorem d54_1 : Dc C8 1 (.getfield 19) 3 := by decide +kernel
theorem d54_4 : Dc C8 4 (.istore_n 1) 1 := by decide +kernel
theorem d54_5 : Dc C8 5 (.iload_n 1) 1 := by decide +kernel
theorem d54_6 : Dc C8 6 (.ifCond .ne 52) 3 := by decide +kernel
theorem d54_9 : Dc C8 9 (.aload_n 0) 1 := by decide +kernel
theorem d54_10 : Dc C8 10 (.getfield 23) 3 := by decide +kernel
theorem d54_13 : Dc C8 13 (.ifCond .ne 45) 3 := by decide +kernel
theorem d54_16 : Dc C8 16 (.aload_n 0) 1 := by decide +kernel
theorem d54_17 : Dc C8 17 (.invokevirtual 492) 3 := by decide +kernel
theorem d54_20 : Dc C8 20 (.ifCond .eq 13) 3 := by decide +kernel
theorem d54_23 : Dc C8 23 (.aload_n 0) 1 := by decide +kernel
theorem d54_24 : Dc C8 24 (.getfield 9) 3 := by decide +kernel
theorem d54_27 : Dc C8 27 (.invokestatic 628) 3 := by decide +kernel
theorem d54_30 : Dc C8 30 (.goto 10) 3 := by decide +kernel
theorem d54_40 : Dc C8 40 (.istore_n 1) 1 := by decide +kernel
theorem d54_41 : Dc C8 41 (.iload_n 1) 1 := by decide +kernel
theorem d54_42 : Dc C8 42 (.ifCond .ne 11) 3 := by decide +kernel
theorem d54_53 : Dc C8 53 (.aload_n 0) 1 := by decide +kernel
theorem d54_54 : Dc C8 54 (.iload_n 1) 1 := by decide +kernel
theorem d54_55 : Dc C8 55 (.putfield 19) 3 := by decide +kernel
theorem d54_58 : Dc C8 58 (.iload_n 1) 1 := by decide +kernel
theorem d54_59 : Dc C8 59 (.ireturn) 1 := by decide +kernel
theorem d55_0 : Dc C48 0 (.getstatic 38) 3 := by decide +kernel
theorem d55_3 : Dc C48 3 (.ifCond .eq 14) 3 := by decide +kernel
theorem d55_6 : Dc C48 6 (.aload_n 0) 1 := by decide +kernel
theorem d55_7 : Dc C48 7 (.getfield 15) 3 := by decide +kernel
theorem d55_10 : Dc C48 10 (.ifCond .ne 7) 3 := by decide +kernel
theorem d55_13 : Dc C48 13 (.iconst 1) 1 := by decide +kernel
theorem d55_14 : Dc C48 14 (.goto 4) 3 := by decide +kernel
theorem d55_18 : Dc C48 18 (.ireturn) 1 := by decide +kernel
theorem d56_0 : Dc C28 0 (.aload_n 0) 1 := by decide +kernel
theorem d56_1 : Dc C28 1 (.arraylength) 1 := by decide +kernel
theorem d56_2 : Dc C28 2 (.lookupswitch 40 #[(0, 26), (1, 30)]) 26 := by decide +kernel
theorem d56_32 : Dc C28 32 (.aload_n 0) 1 := by decide +kernel
theorem d56_33 : Dc C28 33 (.iconst 0) 1 := by decide +kernel
theorem d56_34 : Dc C28 34 (.baload) 1 := by decide +kernel
theorem d56_35 : Dc C28 35 (.sipush 255) 3 := by decide +kernel
theorem d56_38 : Dc C28 38 (.iand) 1 := by decide +kernel
theorem d56_39 : Dc C28 39 (.goto 12) 3 := by decide +kernel
theorem d56_51 : Dc C28 51 (.ireturn) 1 := by decide +kernel
theorem d57_0 : Dc C3 0 (.aload_n 0) 1 := by decide +kernel
theorem d57_1 : Dc C3 1 (.getfield 105) 3 := by decide +kernel
theorem d57_4 : Dc C3 4 (.dup) 1 := by decide +kernel
theorem d57_5 : Dc C3 5 (.astore 6) 2 := by decide +kernel
theorem d57_7 : Dc C3 7 (.ifnull 12) 3 := by decide +kernel
theorem d57_10 : Dc C3 10 (.aload 6) 2 := by decide +kernel
theorem d57_12 : Dc C3 12 (.arraylength) 1 := by decide +kernel
theorem d57_13 : Dc C3 13 (.dup) 1 := by decide +kernel
theorem d57_14 : Dc C3 14 (.istore 8) 2 := by decide +kernel
theorem d57_16 : Dc C3 16 (.ifCond .ne 13) 3 := by decide +kernel
theorem d57_19 : Dc C3 19 (.aload_n 0) 1 := by decide +kernel
theorem d57_20 : Dc C3 20 (.invokevirtual 117) 3 := by decide +kernel
theorem d57_23 : Dc C3 23 (.dup) 1 := by decide +kernel
theorem d57_24 : Dc C3 24 (.astore 6) 2 := by decide +kernel
theorem d57_26 : Dc C3 26 (.arraylength) 1 := by decide +kernel
theorem d57_27 : Dc C3 27 (.istore 8) 2 := by decide +kernel
theorem d57_29 : Dc C3 29 (.aload 6) 2 := by decide +kernel
theorem d57_31 : Dc C3 31 (.iload 8) 2 := by decide +kernel
theorem d57_33 : Dc C3 33 (.iconst 1) 1 := by decide +kernel
theorem d57_34 : Dc C3 34 (.isub) 1 := by decide +kernel
theorem d57_35 : Dc C3 35 (.iload_n 1) 1 := by decide +kernel
theorem d57_36 : Dc C3 36 (.iand) 1 := by decide +kernel
theorem d57_37 : Dc C3 37 (.dup) 1 := by decide +kernel
theorem d57_38 : Dc C3 38 (.istore 9) 2 := by decide +kernel
theorem d57_40 : Dc C3 40 (.aaload) 1 := by decide +kernel
theorem d57_41 : Dc C3 41 (.dup) 1 := by decide +kernel
theorem d57_42 : Dc C3 42 (.astore 7) 2 := by decide +kernel
theorem d57_44 : Dc C3 44 (.ifnonnull 19) 3 := by decide +kernel
theorem d57_47 : Dc C3 47 (.aload 6) 2 := by decide +kernel
theorem d57_49 : Dc C3 49 (.iload 9) 2 := by decide +kernel
theorem d57_51 : Dc C3 51 (.aload_n 0) 1 := by decide +kernel
theorem d57_52 : Dc C3 52 (.iload_n 1) 1 := by decide +kernel
theorem d57_53 : Dc C3 53 (.aload_n 2) 1 := by decide +kernel
theorem d57_54 : Dc C3 54 (.aload_n 3) 1 := by decide +kernel
theorem d57_55 : Dc C3 55 (.aconst_null) 1 := by decide +kernel
theorem d57_56 : Dc C3 56 (.invokevirtual 186) 3 := by decide +kernel
theorem d57_59 : Dc C3 59 (.aastore) 1 := by decide +kernel
theorem d57_60 : Dc C3 60 (.goto 199) 3 := by decide +kernel
theorem d57_259 : Dc C3 259 (.aload_n 0) 1 := by decide +kernel
theorem d57_260 : Dc C3 260 (.dup) 1 := by decide +kernel
theorem d57_261 : Dc C3 261 (.getfield 202) 3 := by decide +kernel
theorem d57_264 : Dc C3 264 (.iconst 1) 1 := by decide +kernel
theorem d57_265 : Dc C3 265 (.iadd) 1 := by decide +kernel
theorem d57_266 : Dc C3 266 (.putfield 202) 3 := by decide +kernel
theorem d57_269 : Dc C3 269 (.aload_n 0) 1 := by decide +kernel
theorem d57_270 : Dc C3 270 (.dup) 1 := by decide +kernel
theorem d57_271 : Dc C3 271 (.getfield 156) 3 := by decide +kernel
theorem d57_274 : Dc C3 274 (.iconst 1) 1 := by decide +kernel
theorem d57_275 : Dc C3 275 (.iadd) 1 := by decide +kernel
theorem d57_276 : Dc C3 276 (.dup_x1) 1 := by decide +kernel
theorem d57_277 : Dc C3 277 (.putfield 156) 3 := by decide +kernel
theorem d57_280 : Dc C3 280 (.aload_n 0) 1 := by decide +kernel
theorem d57_281 : Dc C3 281 (.getfield 88) 3 := by decide +kernel
theorem d57_284 : Dc C3 284 (.if_icmp .le 8) 3 := by decide +kernel
theorem d57_292 : Dc C3 292 (.aload_n 0) 1 := by decide +kernel
theorem d57_293 : Dc C3 293 (.iload 5) 2 := by decide +kernel
theorem d57_295 : Dc C3 295 (.invokevirtual 205) 3 := by decide +kernel
theorem d57_298 : Dc C3 298 (.aconst_null) 1 := by decide +kernel
theorem d57_299 : Dc C3 299 (.areturn) 1 := by decide +kernel
theorem d58_0 : Dc C6 0 (.aload_n 0) 1 := by decide +kernel
theorem d58_1 : Dc C6 1 (.getfield 105) 3 := by decide +kernel
theorem d58_4 : Dc C6 4 (.astore_n 1) 1 := by decide +kernel
theorem d58_5 : Dc C6 5 (.aload_n 1) 1 := by decide +kernel
theorem d58_6 : Dc C6 6 (.ifnonnull 7) 3 := by decide +kernel
theorem d58_9 : Dc C6 9 (.iconst 0) 1 := by decide +kernel
theorem d58_10 : Dc C6 10 (.goto 5) 3 := by decide +kernel
theorem d58_15 : Dc C6 15 (.istore_n 2) 1 := by decide +kernel
theorem d58_16 : Dc C6 16 (.aload_n 0) 1 := by decide +kernel
theorem d58_17 : Dc C6 17 (.getfield 88) 3 := by decide +kernel
theorem d58_20 : Dc C6 20 (.istore_n 3) 1 := by decide +kernel
theorem d58_21 : Dc C6 21 (.iconst 0) 1 := by decide +kernel
theorem d58_22 : Dc C6 22 (.istore 5) 2 := by decide +kernel
theorem d58_24 : Dc C6 24 (.iload_n 2) 1 := by decide +kernel
theorem d58_25 : Dc C6 25 (.ifCond .le 42) 3 := by decide +kernel
theorem d58_67 : Dc C6 67 (.iload_n 3) 1 := by decide +kernel
theorem d58_68 : Dc C6 68 (.ifCond .le 9) 3 := by decide +kernel
theorem d58_77 : Dc C6 77 (.bipush 16) 2 := by decide +kernel
theorem d58_79 : Dc C6 79 (.istore 4) 2 := by decide +kernel
theorem d58_81 : Dc C6 81 (.bipush 12) 2 := by decide +kernel
theorem d58_83 : Dc C6 83 (.istore 5) 2 := by decide +kernel
theorem d58_85 : Dc C6 85 (.iload 5) 2 := by decide +kernel
theorem d58_87 : Dc C6 87 (.ifCond .ne 38) 3 := by decide +kernel
theorem d58_125 : Dc C6 125 (.aload_n 0) 1 := by decide +kernel
theorem d58_126 : Dc C6 126 (.iload 5) 2 := by decide +kernel
theorem d58_128 : Dc C6 128 (.putfield 88) 3 := by decide +kernel
theorem d58_131 : Dc C6 131 (.iload 4) 2 := by decide +kernel
theorem d58_133 : Dc C6 133 (.anewarray 163) 3 := by decide +kernel
theorem d58_136 : Dc C6 136 (.astore 6) 2 := by decide +kernel
theorem d58_138 : Dc C6 138 (.aload_n 0) 1 := by decide +kernel
theorem d58_139 : Dc C6 139 (.aload 6) 2 := by decide +kernel
theorem d58_141 : Dc C6 141 (.putfield 105) 3 := by decide +kernel
theorem d58_144 : Dc C6 144 (.aload_n 1) 1 := by decide +kernel
theorem d58_145 : Dc C6 145 (.ifnull 208) 3 := by decide +kernel
theorem d58_353 : Dc C6 353 (.aload 6) 2 := by decide +kernel
theorem d58_355 : Dc C6 355 (.areturn) 1 := by decide +kernel
theorem d59_0 : Dc C36 0 (.new 163) 3 := by decide +kernel
theorem d59_3 : Dc C36 3 (.dup) 1 := by decide +kernel
theorem d59_4 : Dc C36 4 (.iload_n 1) 1 := by decide +kernel
theorem d59_5 : Dc C36 5 (.aload_n 2) 1 := by decide +kernel
theorem d59_6 : Dc C36 6 (.aload_n 3) 1 := by decide +kernel
theorem d59_7 : Dc C36 7 (.aload 4) 2 := by decide +kernel
theorem d59_9 : Dc C36 9 (.invokespecial 375) 3 := by decide +kernel
theorem d59_12 : Dc C36 12 (.areturn) 1 := by decide +kernel
theorem d60_0 : Dc C18 0 (.aload_n 0) 1 := by decide +kernel
theorem d60_1 : Dc C18 1 (.invokespecial 1) 3 := by decide +kernel
theorem d60_4 : Dc C18 4 (.aload_n 0) 1 := by decide +kernel
theorem d60_5 : Dc C18 5 (.iload_n 1) 1 := by decide +kernel
theorem d60_6 : Dc C18 6 (.putfield 7) 3 := by decide +kernel
theorem d60_9 : Dc C18 9 (.aload_n 0) 1 := by decide +kernel
theorem d60_10 : Dc C18 10 (.aload_n 2) 1 := by decide +kernel
theorem d60_11 : Dc C18 11 (.putfield 13) 3 := by decide +kernel
theorem d60_14 : Dc C18 14 (.aload_n 0) 1 := by decide +kernel
theorem d60_15 : Dc C18 15 (.aload_n 3) 1 := by decide +kernel
theorem d60_16 : Dc C18 16 (.putfield 17) 3 := by decide +kernel
theorem d60_19 : Dc C18 19 (.aload_n 0) 1 := by decide +kernel
theorem d60_20 : Dc C18 20 (.aload 4) 2 := by decide +kernel
theorem d60_22 : Dc C18 22 (.putfield 20) 3 := by decide +kernel
theorem d60_25 : Dc C18 25 (.return_) 1 := by decide +kernel
theorem d61_0 : Dc jdk_69_method_52_code 0 (.return_) 1 := by decide +kernel
theorem d62_0 : Dc C1 0 (.aload_n 0) 1 := by decide +kernel
theorem d62_1 : Dc C1 1 (.invokespecial 3) 3 := by decide +kernel
theorem d62_4 : Dc C1 4 (.aload_n 0) 1 := by decide +kernel
theorem d62_5 : Dc C1 5 (.new 9) 3 := by decide +kernel
theorem d62_8 : Dc C1 8 (.dup) 1 := by decide +kernel
theorem d62_9 : Dc C1 9 (.invokespecial 11) 3 := by decide +kernel
theorem d62_12 : Dc C1 12 (.putfield 12) 3 := by decide +kernel
theorem d62_15 : Dc C1 15 (.aload_n 0) 1 := by decide +kernel
theorem d62_16 : Dc C1 16 (.aload_n 1) 1 := by decide +kernel
theorem d62_17 : Dc C1 17 (.putfield 18) 3 := by decide +kernel
theorem d62_20 : Dc C1 20 (.aload_n 0) 1 := by decide +kernel
theorem d62_21 : Dc C1 21 (.aload_n 1) 1 := by decide +kernel
theorem d62_22 : Dc C1 22 (.invokevirtual 22) 3 := by decide +kernel
theorem d62_25 : Dc C1 25 (.putfield 28) 3 := by decide +kernel
theorem d62_28 : Dc C1 28 (.aload_n 0) 1 := by decide +kernel
theorem d62_29 : Dc C1 29 (.aload_n 1) 1 := by decide +kernel
theorem d62_30 : Dc C1 30 (.invokevirtual 31) 3 := by decide +kernel
theorem d62_33 : Dc C1 33 (.putfield 34) 3 := by decide +kernel
theorem d62_36 : Dc C1 36 (.aload_n 0) 1 := by decide +kernel
theorem d62_37 : Dc C1 37 (.aload_n 1) 1 := by decide +kernel
theorem d62_38 : Dc C1 38 (.invokevirtual 37) 3 := by decide +kernel
theorem d62_41 : Dc C1 41 (.putfield 40) 3 := by decide +kernel
theorem d62_44 : Dc C1 44 (.aload_n 0) 1 := by decide +kernel
theorem d62_45 : Dc C1 45 (.aload_n 0) 1 := by decide +kernel
theorem d62_46 : Dc C1 46 (.getfield 40) 3 := by decide +kernel
theorem d62_49 : Dc C1 49 (.aload_n 0) 1 := by decide +kernel
theorem d62_50 : Dc C1 50 (.getfield 40) 3 := by decide +kernel
theorem d62_53 : Dc C1 53 (.imul) 1 := by decide +kernel
theorem d62_54 : Dc C1 54 (.newarray .byte) 2 := by decide +kernel
theorem d62_56 : Dc C1 56 (.putfield 43) 3 := by decide +kernel
theorem d62_59 : Dc C1 59 (.aload_n 0) 1 := by decide +kernel
theorem d62_60 : Dc C1 60 (.aload_n 0) 1 := by decide +kernel
theorem d62_61 : Dc C1 61 (.getfield 40) 3 := by decide +kernel
theorem d62_64 : Dc C1 64 (.aload_n 0) 1 := by decide +kernel
theorem d62_65 : Dc C1 65 (.getfield 40) 3 := by decide +kernel
theorem d62_68 : Dc C1 68 (.imul) 1 := by decide +kernel
theorem d62_69 : Dc C1 69 (.newarray .int) 2 := by decide +kernel
theorem d62_71 : Dc C1 71 (.putfield 47) 3 := by decide +kernel
theorem d62_74 : Dc C1 74 (.aload_n 0) 1 := by decide +kernel
theorem d62_75 : Dc C1 75 (.aload_n 1) 1 := by decide +kernel
theorem d62_76 : Dc C1 76 (.invokevirtual 51) 3 := by decide +kernel
theorem d62_79 : Dc C1 79 (.newarray .int) 2 := by decide +kernel
theorem d62_81 : Dc C1 81 (.putfield 54) 3 := by decide +kernel
theorem d62_84 : Dc C1 84 (.aload_n 0) 1 := by decide +kernel
theorem d62_85 : Dc C1 85 (.getfield 54) 3 := by decide +kernel
theorem d62_88 : Dc C1 88 (.iconst (-1)) 1 := by decide +kernel
theorem d62_89 : Dc C1 89 (.invokestatic 57) 3 := by decide +kernel
theorem d62_92 : Dc C1 92 (.aload_n 0) 1 := by decide +kernel
theorem d62_93 : Dc C1 93 (.aload_n 1) 1 := by decide +kernel
theorem d62_94 : Dc C1 94 (.invokevirtual 51) 3 := by decide +kernel
theorem d62_97 : Dc C1 97 (.newarray .long) 2 := by decide +kernel
theorem d62_99 : Dc C1 99 (.putfield 63) 3 := by decide +kernel
theorem d62_102 : Dc C1 102 (.aload_n 0) 1 := by decide +kernel
theorem d62_103 : Dc C1 103 (.getfield 63) 3 := by decide +kernel
theorem d62_106 : Dc C1 106 (.lconst 1) 1 := by decide +kernel
theorem d62_107 : Dc C1 107 (.aload_n 0) 1 := by decide +kernel
theorem d62_108 : Dc C1 108 (.getfield 28) 3 := by decide +kernel
theorem d62_111 : Dc C1 111 (.lshl) 1 := by decide +kernel
theorem d62_112 : Dc C1 112 (.lconst 1) 1 := by decide +kernel
theorem d62_113 : Dc C1 113 (.lsub) 1 := by decide +kernel
theorem d62_114 : Dc C1 114 (.invokestatic 67) 3 := by decide +kernel
theorem d62_117 : Dc C1 117 (.aload_n 0) 1 := by decide +kernel
theorem d62_118 : Dc C1 118 (.aload_n 0) 1 := by decide +kernel
theorem d62_119 : Dc C1 119 (.getfield 40) 3 := by decide +kernel
theorem d62_122 : Dc C1 122 (.aload_n 0) 1 := by decide +kernel
theorem d62_123 : Dc C1 123 (.getfield 40) 3 := by decide +kernel
theorem d62_126 : Dc C1 126 (.aload_n 0) 1 := by decide +kernel
theorem d62_127 : Dc C1 127 (.getfield 28) 3 := by decide +kernel
theorem d62_130 : Dc C1 130 (.isub) 1 := by decide +kernel
theorem d62_131 : Dc C1 131 (.imul) 1 := by decide +kernel
theorem d62_132 : Dc C1 132 (.iconst 2) 1 := by decide +kernel
theorem d62_133 : Dc C1 133 (.idiv) 1 := by decide +kernel
theorem d62_134 : Dc C1 134 (.putfield 70) 3 := by decide +kernel
theorem d62_137 : Dc C1 137 (.aload_n 0) 1 := by decide +kernel
theorem d62_138 : Dc C1 138 (.ldc 73) 2 := by decide +kernel
theorem d62_140 : Dc C1 140 (.putfield 74) 3 := by decide +kernel
theorem d62_143 : Dc C1 143 (.aload_n 0) 1 := by decide +kernel
theorem d62_144 : Dc C1 144 (.ldc 73) 2 := by decide +kernel
theorem d62_146 : Dc C1 146 (.putfield 77) 3 := by decide +kernel
theorem d62_149 : Dc C1 149 (.return_) 1 := by decide +kernel
theorem d63_0 : Dc C77 0 (.aload_n 0) 1 := by decide +kernel
theorem d63_1 : Dc C77 1 (.getfield 49) 3 := by decide +kernel
theorem d63_4 : Dc C77 4 (.ireturn) 1 := by decide +kernel
theorem d64_0 : Dc C71 0 (.aload_n 0) 1 := by decide +kernel
theorem d64_1 : Dc C71 1 (.getfield 33) 3 := by decide +kernel
theorem d64_4 : Dc C71 4 (.invokeinterface 45 1) 5 := by decide +kernel
theorem d64_9 : Dc C71 9 (.ireturn) 1 := by decide +kernel
theorem d65_0 : Dc C59 0 (.aload_n 0) 1 := by decide +kernel
theorem d65_1 : Dc C59 1 (.getfield 24) 3 := by decide +kernel
theorem d65_4 : Dc C59 4 (.getstatic 19) 3 := by decide +kernel
theorem d65_7 : Dc C59 7 (.if_acmp .eq 7) 3 := by decide +kernel
theorem d65_10 : Dc C59 10 (.iconst 2) 1 := by decide +kernel
theorem d65_11 : Dc C59 11 (.goto 4) 3 := by decide +kernel
theorem d65_15 : Dc C59 15 (.ireturn) 1 := by decide +kernel
theorem d66_0 : Dc C72 0 (.aload_n 0) 1 := by decide +kernel
theorem d66_1 : Dc C72 1 (.getfield 54) 3 := by decide +kernel
theorem d66_4 : Dc C72 4 (.arraylength) 1 := by decide +kernel
theorem d66_5 : Dc C72 5 (.ireturn) 1 := by decide +kernel
theorem d67_0 : Dc C49 0 (.aload_n 0) 1 := by decide +kernel
theorem d67_1 : Dc C49 1 (.getfield 54) 3 := by decide +kernel
theorem d67_4 : Dc C49 4 (.arraylength) 1 := by decide +kernel
theorem d67_5 : Dc C49 5 (.aload_n 0) 1 := by decide +kernel
theorem d67_6 : Dc C49 6 (.getfield 33) 3 := by decide +kernel
theorem d67_9 : Dc C49 9 (.invokeinterface 45 1) 5 := by decide +kernel
theorem d67_14 : Dc C49 14 (.imul) 1 := by decide +kernel
theorem d67_15 : Dc C49 15 (.ireturn) 1 := by decide +kernel
theorem d68_0 : Dc C25 0 (.iconst 0) 1 := by decide +kernel
theorem d68_1 : Dc C25 1 (.istore_n 2) 1 := by decide +kernel
theorem d68_2 : Dc C25 2 (.aload_n 0) 1 := by decide +kernel
theorem d68_3 : Dc C25 3 (.arraylength) 1 := by decide +kernel
theorem d68_4 : Dc C25 4 (.istore_n 3) 1 := by decide +kernel
theorem d68_5 : Dc C25 5 (.iload_n 2) 1 := by decide +kernel
theorem d68_6 : Dc C25 6 (.iload_n 3) 1 := by decide +kernel
theorem d68_7 : Dc C25 7 (.if_icmp .ge 13) 3 := by decide +kernel
theorem d68_10 : Dc C25 10 (.aload_n 0) 1 := by decide +kernel
theorem d68_11 : Dc C25 11 (.iload_n 2) 1 := by decide +kernel
theorem d68_12 : Dc C25 12 (.iload_n 1) 1 := by decide +kernel
theorem d68_13 : Dc C25 13 (.iastore) 1 := by decide +kernel
theorem d68_14 : Dc C25 14 (.iinc 2 1) 3 := by decide +kernel
theorem d68_17 : Dc C25 17 (.goto (-12)) 3 := by decide +kernel
theorem d68_20 : Dc C25 20 (.return_) 1 := by decide +kernel
theorem d69_0 : Dc C26 0 (.iconst 0) 1 := by decide +kernel
theorem d69_1 : Dc C26 1 (.istore_n 3) 1 := by decide +kernel
theorem d69_2 : Dc C26 2 (.aload_n 0) 1 := by decide +kernel
theorem d69_3 : Dc C26 3 (.arraylength) 1 := by decide +kernel
theorem d69_4 : Dc C26 4 (.istore 4) 2 := by decide +kernel
theorem d69_6 : Dc C26 6 (.iload_n 3) 1 := by decide +kernel
theorem d69_7 : Dc C26 7 (.iload 4) 2 := by decide +kernel
theorem d69_9 : Dc C26 9 (.if_icmp .ge 13) 3 := by decide +kernel
theorem d69_12 : Dc C26 12 (.aload_n 0) 1 := by decide +kernel
theorem d69_13 : Dc C26 13 (.iload_n 3) 1 := by decide +kernel
theorem d69_14 : Dc C26 14 (.lload_n 1) 1 := by decide +kernel
theorem d69_15 : Dc C26 15 (.lastore) 1 := by decide +kernel
theorem d69_16 : Dc C26 16 (.iinc 3 1) 3 := by decide +kernel
theorem d69_19 : Dc C26 19 (.goto (-13)) 3 := by decide +kernel
theorem d69_22 : Dc C26 22 (.return_) 1 := by decide +kernel
theorem d70_0 : Dc C11 0 (.aload_n 0) 1 := by decide +kernel
theorem d70_1 : Dc C11 1 (.iload_n 1) 1 := by decide +kernel
theorem d70_2 : Dc C11 2 (.iload_n 2) 1 := by decide +kernel
theorem d70_3 : Dc C11 3 (.invokevirtual 105) 3 := by decide +kernel
theorem d70_6 : Dc C11 6 (.istore 4) 2 := by decide +kernel
theorem d70_8 : Dc C11 8 (.aload_n 0) 1 := by decide +kernel
theorem d70_9 : Dc C11 9 (.getfield 43) 3 := by decide +kernel
theorem d70_12 : Dc C11 12 (.iload 4) 2 := by decide +kernel
theorem d70_14 : Dc C11 14 (.baload) 1 := by decide +kernel
theorem d70_15 : Dc C11 15 (.iload_n 3) 1 := by decide +kernel
theorem d70_16 : Dc C11 16 (.ifCond .eq 7) 3 := by decide +kernel
theorem d70_19 : Dc C11 19 (.iconst 1) 1 := by decide +kernel
theorem d70_20 : Dc C11 20 (.goto 4) 3 := by decide +kernel
theorem d70_23 : Dc C11 23 (.iconst 2) 1 := by decide +kernel
theorem d70_24 : Dc C11 24 (.if_icmp .ne 13) 3 := by decide +kernel
theorem d70_27 : Dc C11 27 (.aload_n 0) 1 := by decide +kernel
theorem d70_28 : Dc C11 28 (.getfield 47) 3 := by decide +kernel
theorem d70_31 : Dc C11 31 (.iload 4) 2 := by decide +kernel
theorem d70_33 : Dc C11 33 (.iaload) 1 := by decide +kernel
theorem d70_34 : Dc C11 34 (.goto 5) 3 := by decide +kernel
theorem d70_37 : Dc C11 37 (.ldc 73) 2 := by decide +kernel
theorem d70_39 : Dc C11 39 (.ireturn) 1 := by decide +kernel
theorem d71_0 : Dc C19 0 (.iload_n 1) 1 := by decide +kernel
theorem d71_1 : Dc C19 1 (.iload_n 2) 1 := by decide +kernel
theorem d71_2 : Dc C19 2 (.if_icmp .ge 14) 3 := by decide +kernel
theorem d71_5 : Dc C19 5 (.iload_n 1) 1 := by decide +kernel
theorem d71_6 : Dc C19 6 (.aload_n 0) 1 := by decide +kernel
theorem d71_7 : Dc C19 7 (.getfield 40) 3 := by decide +kernel
theorem d71_10 : Dc C19 10 (.imul) 1 := by decide +kernel
theorem d71_11 : Dc C19 11 (.iload_n 2) 1 := by decide +kernel
theorem d71_12 : Dc C19 12 (.iadd) 1 := by decide +kernel
theorem d71_13 : Dc C19 13 (.goto 11) 3 := by decide +kernel
theorem d71_16 : Dc C19 16 (.iload_n 2) 1 := by decide +kernel
theorem d71_17 : Dc C19 17 (.aload_n 0) 1 := by decide +kernel
theorem d71_18 : Dc C19 18 (.getfield 40) 3 := by decide +kernel
theorem d71_21 : Dc C19 21 (.imul) 1 := by decide +kernel
theorem d71_22 : Dc C19 22 (.iload_n 1) 1 := by decide +kernel
theorem d71_23 : Dc C19 23 (.iadd) 1 := by decide +kernel
theorem d71_24 : Dc C19 24 (.ireturn) 1 := by decide +kernel
theorem d72_0 : Dc C37 0 (.aload_n 0) 1 := by decide +kernel
theorem d72_1 : Dc C37 1 (.iload_n 1) 1 := by decide +kernel
theorem d72_2 : Dc C37 2 (.iload_n 2) 1 := by decide +kernel
theorem d72_3 : Dc C37 3 (.iload_n 3) 1 := by decide +kernel
theorem d72_4 : Dc C37 4 (.aload 4) 2 := by decide +kernel
theorem d72_6 : Dc C37 6 (.aload 5) 2 := by decide +kernel
theorem d72_8 : Dc C37 8 (.aconst_null) 1 := by decide +kernel
theorem d72_9 : Dc C37 9 (.aload 6) 2 := by decide +kernel
theorem d72_11 : Dc C37 11 (.invokevirtual 132) 3 := by decide +kernel
theorem d72_14 : Dc C37 14 (.return_) 1 := by decide +kernel
theorem d73_0 : Dc C0 0 (.aload_n 0) 1 := by decide +kernel
theorem d73_1 : Dc C0 1 (.iload_n 1) 1 := by decide +kernel
theorem d73_2 : Dc C0 2 (.iload_n 2) 1 := by decide +kernel
theorem d73_3 : Dc C0 3 (.invokevirtual 105) 3 := by decide +kernel
theorem d73_6 : Dc C0 6 (.istore 8) 2 := by decide +kernel
theorem d73_8 : Dc C0 8 (.iload_n 3) 1 := by decide +kernel
theorem d73_9 : Dc C0 9 (.ifCond .eq 7) 3 := by decide +kernel
theorem d73_12 : Dc C0 12 (.iconst 1) 1 := by decide +kernel
theorem d73_13 : Dc C0 13 (.goto 4) 3 := by decide +kernel
theorem d73_16 : Dc C0 16 (.iconst 2) 1 := by decide +kernel
theorem d73_17 : Dc C0 17 (.istore 9) 2 := by decide +kernel
theorem d73_19 : Dc C0 19 (.aload_n 0) 1 := by decide +kernel
theorem d73_20 : Dc C0 20 (.getfield 43) 3 := by decide +kernel
theorem d73_23 : Dc C0 23 (.iload 8) 2 := by decide +kernel
theorem d73_25 : Dc C0 25 (.baload) 1 := by decide +kernel
theorem d73_26 : Dc C0 26 (.iload 9) 2 := by decide +kernel
theorem d73_28 : Dc C0 28 (.if_icmp .ne 4) 3 := by decide +kernel
theorem d73_32 : Dc C0 32 (.aload_n 0) 1 := by decide +kernel
theorem d73_33 : Dc C0 33 (.getfield 43) 3 := by decide +kernel
theorem d73_36 : Dc C0 36 (.iload 8) 2 := by decide +kernel
theorem d73_38 : Dc C0 38 (.baload) 1 := by decide +kernel
theorem d73_39 : Dc C0 39 (.ifCond .eq 92) 3 := by decide +kernel
theorem d73_131 : Dc C0 131 (.aload_n 0) 1 := by decide +kernel
theorem d73_132 : Dc C0 132 (.getfield 12) 3 := by decide +kernel
theorem d73_135 : Dc C0 135 (.invokeinterface 98 1) 5 := by decide +kernel
theorem d73_140 : Dc C0 140 (.aload_n 0) 1 := by decide +kernel
theorem d73_141 : Dc C0 141 (.getfield 77) 3 := by decide +kernel
theorem d73_144 : Dc C0 144 (.if_icmp .ne 11) 3 := by decide +kernel
theorem d73_155 : Dc C0 155 (.new 174) 3 := by decide +kernel
theorem d73_158 : Dc C0 158 (.dup) 1 := by decide +kernel
theorem d73_159 : Dc C0 159 (.aload_n 0) 1 := by decide +kernel
theorem d73_160 : Dc C0 160 (.getfield 12) 3 := by decide +kernel
theorem d73_163 : Dc C0 163 (.invokeinterface 98 1) 5 := by decide +kernel
theorem d73_168 : Dc C0 168 (.iconst 1) 1 := by decide +kernel
theorem d73_169 : Dc C0 169 (.iadd) 1 := by decide +kernel
theorem d73_170 : Dc C0 170 (.iload_n 1) 1 := by decide +kernel
theorem d73_171 : Dc C0 171 (.iload_n 2) 1 := by decide +kernel
theorem d73_172 : Dc C0 172 (.invokestatic 176) 3 := by decide +kernel
theorem d73_175 : Dc C0 175 (.iload_n 1) 1 := by decide +kernel
theorem d73_176 : Dc C0 176 (.iload_n 2) 1 := by decide +kernel
theorem d73_177 : Dc C0 177 (.invokestatic 181) 3 := by decide +kernel
theorem d73_180 : Dc C0 180 (.iload_n 3) 1 := by decide +kernel
theorem d73_181 : Dc C0 181 (.aload 4) 2 := by decide +kernel
theorem d73_183 : Dc C0 183 (.aload 5) 2 := by decide +kernel
theorem d73_185 : Dc C0 185 (.aload_n 0) 1 := by decide +kernel
theorem d73_186 : Dc C0 186 (.aload 7) 2 := by decide +kernel
theorem d73_188 : Dc C0 188 (.invokevirtual 184) 3 := by decide +kernel
theorem d73_191 : Dc C0 191 (.aload 6) 2 := by decide +kernel
theorem d73_193 : Dc C0 193 (.invokespecial 188) 3 := by decide +kernel
theorem d73_196 : Dc C0 196 (.astore 10) 2 := by decide +kernel
theorem d73_198 : Dc C0 198 (.aload_n 0) 1 := by decide +kernel
theorem d73_199 : Dc C0 199 (.getfield 12) 3 := by decide +kernel
theorem d73_202 : Dc C0 202 (.aload 10) 2 := by decide +kernel
theorem d73_204 : Dc C0 204 (.invokeinterface 191 2) 5 := by decide +kernel
theorem d73_209 : Dc C0 209 (.pop) 1 := by decide +kernel
theorem d73_210 : Dc C0 210 (.aload_n 0) 1 := by decide +kernel
theorem d73_211 : Dc C0 211 (.getfield 43) 3 := by decide +kernel
theorem d73_214 : Dc C0 214 (.iload 8) 2 := by decide +kernel
theorem d73_216 : Dc C0 216 (.iload 9) 2 := by decide +kernel
theorem d73_218 : Dc C0 218 (.bastore) 1 := by decide +kernel
theorem d73_219 : Dc C0 219 (.aload_n 0) 1 := by decide +kernel
theorem d73_220 : Dc C0 220 (.getfield 47) 3 := by decide +kernel
theorem d73_223 : Dc C0 223 (.iload 8) 2 := by decide +kernel
theorem d73_225 : Dc C0 225 (.aload 10) 2 := by decide +kernel
theorem d73_227 : Dc C0 227 (.invokevirtual 195) 3 := by decide +kernel
theorem d73_230 : Dc C0 230 (.iastore) 1 := by decide +kernel
theorem d73_231 : Dc C0 231 (.aload_n 0) 1 := by decide +kernel
theorem d73_232 : Dc C0 232 (.iload_n 1) 1 := by decide +kernel
theorem d73_233 : Dc C0 233 (.iload_n 2) 1 := by decide +kernel
theorem d73_234 : Dc C0 234 (.iload_n 3) 1 := by decide +kernel
theorem d73_235 : Dc C0 235 (.invokevirtual 196) 3 := by decide +kernel
theorem d73_238 : Dc C0 238 (.aload_n 0) 1 := by decide +kernel
theorem d73_239 : Dc C0 239 (.iload_n 2) 1 := by decide +kernel
theorem d73_240 : Dc C0 240 (.iload_n 1) 1 := by decide +kernel
theorem d73_241 : Dc C0 241 (.iload_n 3) 1 := by decide +kernel
theorem d73_242 : Dc C0 242 (.invokevirtual 196) 3 := by decide +kernel
theorem d73_245 : Dc C0 245 (.iload_n 3) 1 := by decide +kernel
theorem d73_246 : Dc C0 246 (.ifCond .eq 12) 3 := by decide +kernel
theorem d73_249 : Dc C0 249 (.aload_n 0) 1 := by decide +kernel
theorem d73_250 : Dc C0 250 (.iload_n 1) 1 := by decide +kernel
theorem d73_251 : Dc C0 251 (.iload_n 2) 1 := by decide +kernel
theorem d73_252 : Dc C0 252 (.invokevirtual 200) 3 := by decide +kernel
theorem d73_255 : Dc C0 255 (.goto 9) 3 := by decide +kernel
theorem d73_258 : Dc C0 258 (.aload_n 0) 1 := by decide +kernel
theorem d73_259 : Dc C0 259 (.iload_n 1) 1 := by decide +kernel
theorem d73_260 : Dc C0 260 (.iload_n 2) 1 := by decide +kernel
theorem d73_261 : Dc C0 261 (.invokevirtual 204) 3 := by decide +kernel
theorem d73_264 : Dc C0 264 (.return_) 1 := by decide +kernel
theorem d74_0 : Dc C29 0 (.aload_n 1) 1 := by decide +kernel
theorem d74_1 : Dc C29 1 (.arraylength) 1 := by decide +kernel
theorem d74_2 : Dc C29 2 (.newarray .int) 2 := by decide +kernel
theorem d74_4 : Dc C29 4 (.astore_n 2) 1 := by decide +kernel
theorem d74_5 : Dc C29 5 (.iconst 0) 1 := by decide +kernel
theorem d74_6 : Dc C29 6 (.istore_n 3) 1 := by decide +kernel
theorem d74_7 : Dc C29 7 (.iload_n 3) 1 := by decide +kernel
theorem d74_8 : Dc C29 8 (.aload_n 1) 1 := by decide +kernel
theorem d74_9 : Dc C29 9 (.arraylength) 1 := by decide +kernel
theorem d74_10 : Dc C29 10 (.if_icmp .ge 36) 3 := by decide +kernel
theorem d74_46 : Dc C29 46 (.aload_n 2) 1 := by decide +kernel
theorem d74_47 : Dc C29 47 (.invokestatic 219) 3 := by decide +kernel
theorem d74_50 : Dc C29 50 (.aload_n 2) 1 := by decide +kernel
theorem d74_51 : Dc C29 51 (.areturn) 1 := by decide +kernel
theorem d75_0 : Dc C60 0 (.aload_n 0) 1 := by decide +kernel
theorem d75_1 : Dc C60 1 (.iconst 0) 1 := by decide +kernel
theorem d75_2 : Dc C60 2 (.iconst 0) 1 := by decide +kernel
theorem d75_3 : Dc C60 3 (.aload_n 0) 1 := by decide +kernel
theorem d75_4 : Dc C60 4 (.arraylength) 1 := by decide +kernel
theorem d75_5 : Dc C60 5 (.invokestatic 7) 3 := by decide +kernel
theorem d75_8 : Dc C60 8 (.return_) 1 := by decide +kernel
theorem d76_0 : Dc C30 0 (.iload_n 3) 1 := by decide +kernel
theorem d76_1 : Dc C30 1 (.iload_n 2) 1 := by decide +kernel
theorem d76_2 : Dc C30 2 (.isub) 1 := by decide +kernel
theorem d76_3 : Dc C30 3 (.istore 4) 2 := by decide +kernel
theorem d76_5 : Dc C30 5 (.iload_n 1) 1 := by decide +kernel
theorem d76_6 : Dc C30 6 (.iconst 1) 1 := by decide +kernel
theorem d76_7 : Dc C30 7 (.if_icmp .le 61) 3 := by decide +kernel
theorem d76_68 : Dc C30 68 (.aconst_null) 1 := by decide +kernel
theorem d76_69 : Dc C30 69 (.aload_n 0) 1 := by decide +kernel
theorem d76_70 : Dc C30 70 (.iconst 0) 1 := by decide +kernel
theorem d76_71 : Dc C30 71 (.iload_n 2) 1 := by decide +kernel
theorem d76_72 : Dc C30 72 (.iload_n 3) 1 := by decide +kernel
theorem d76_73 : Dc C30 73 (.invokestatic 26) 3 := by decide +kernel
theorem d76_76 : Dc C30 76 (.return_) 1 := by decide +kernel
theorem d77_0 : Dc C10 0 (.iload 4) 2 := by decide +kernel
theorem d77_2 : Dc C10 2 (.iconst 1) 1 := by decide +kernel
theorem d77_3 : Dc C10 3 (.isub) 1 := by decide +kernel
theorem d77_4 : Dc C10 4 (.istore 5) 2 := by decide +kernel
theorem d77_6 : Dc C10 6 (.iload 4) 2 := by decide +kernel
theorem d77_8 : Dc C10 8 (.iload_n 3) 1 := by decide +kernel
theorem d77_9 : Dc C10 9 (.isub) 1 := by decide +kernel
theorem d77_10 : Dc C10 10 (.istore 6) 2 := by decide +kernel
theorem d77_12 : Dc C10 12 (.iload 6) 2 := by decide +kernel
theorem d77_14 : Dc C10 14 (.bipush 65) 2 := by decide +kernel
theorem d77_16 : Dc C10 16 (.iload_n 2) 1 := by decide +kernel
theorem d77_17 : Dc C10 17 (.iadd) 1 := by decide +kernel
theorem d77_18 : Dc C10 18 (.if_icmp .ge 28) 3 := by decide +kernel
theorem d77_21 : Dc C10 21 (.iload_n 2) 1 := by decide +kernel
theorem d77_22 : Dc C10 22 (.iconst 1) 1 := by decide +kernel
theorem d77_23 : Dc C10 23 (.iand) 1 := by decide +kernel
theorem d77_24 : Dc C10 24 (.ifCond .le 22) 3 := by decide +kernel
theorem d77_46 : Dc C10 46 (.iload 6) 2 := by decide +kernel
theorem d77_48 : Dc C10 48 (.bipush 44) 2 := by decide +kernel
theorem d77_50 : Dc C10 50 (.if_icmp .ge 11) 3 := by decide +kernel
theorem d77_53 : Dc C10 53 (.aload_n 1) 1 := by decide +kernel
theorem d77_54 : Dc C10 54 (.iload_n 3) 1 := by decide +kernel
theorem d77_55 : Dc C10 55 (.iload 4) 2 := by decide +kernel
theorem d77_57 : Dc C10 57 (.invokestatic 34) 3 := by decide +kernel
theorem d77_60 : Dc C10 60 (.return_) 1 := by decide +kernel
theorem d78_0 : Dc C53 0 (.iload_n 1) 1 := by decide +kernel
theorem d78_1 : Dc C53 1 (.istore 4) 2 := by decide +kernel
theorem d78_3 : Dc C53 3 (.iinc 4 1) 3 := by decide +kernel
theorem d78_6 : Dc C53 6 (.iload 4) 2 := by decide +kernel
theorem d78_8 : Dc C53 8 (.iload_n 2) 1 := by decide +kernel
theorem d78_9 : Dc C53 9 (.if_icmp .ge 58) 3 := by decide +kernel
theorem d78_67 : Dc C53 67 (.return_) 1 := by decide +kernel
theorem d79_0 : Dc C9 0 (.aload_n 0) 1 := by decide +kernel
theorem d79_1 : Dc C9 1 (.invokespecial 1) 3 := by decide +kernel
theorem d79_4 : Dc C9 4 (.aload_n 0) 1 := by decide +kernel
theorem d79_5 : Dc C9 5 (.iload_n 1) 1 := by decide +kernel
theorem d79_6 : Dc C9 6 (.putfield 7) 3 := by decide +kernel
theorem d79_9 : Dc C9 9 (.aload_n 0) 1 := by decide +kernel
theorem d79_10 : Dc C9 10 (.iload_n 2) 1 := by decide +kernel
theorem d79_11 : Dc C9 11 (.putfield 13) 3 := by decide +kernel
theorem d79_14 : Dc C9 14 (.aload_n 0) 1 := by decide +kernel
theorem d79_15 : Dc C9 15 (.iload_n 3) 1 := by decide +kernel
theorem d79_16 : Dc C9 16 (.putfield 16) 3 := by decide +kernel
theorem d79_19 : Dc C9 19 (.aload_n 0) 1 := by decide +kernel
theorem d79_20 : Dc C9 20 (.iload 4) 2 := by decide +kernel
theorem d79_22 : Dc C9 22 (.putfield 19) 3 := by decide +kernel
theorem d79_25 : Dc C9 25 (.aload_n 0) 1 := by decide +kernel
theorem d79_26 : Dc C9 26 (.aload 5) 2 := by decide +kernel
theorem d79_28 : Dc C9 28 (.putfield 23) 3 := by decide +kernel
theorem d79_31 : Dc C9 31 (.aload_n 0) 1 := by decide +kernel
theorem d79_32 : Dc C9 32 (.aload 6) 2 := by decide +kernel
theorem d79_34 : Dc C9 34 (.putfield 27) 3 := by decide +kernel
theorem d79_37 : Dc C9 37 (.aload_n 0) 1 := by decide +kernel
theorem d79_38 : Dc C9 38 (.aload 7) 2 := by decide +kernel
theorem d79_40 : Dc C9 40 (.putfield 31) 3 := by decide +kernel
theorem d79_43 : Dc C9 43 (.aload_n 0) 1 := by decide +kernel
theorem d79_44 : Dc C9 44 (.aload 8) 2 := by decide +kernel
theorem d79_46 : Dc C9 46 (.putfield 35) 3 := by decide +kernel
theorem d79_49 : Dc C9 49 (.return_) 1 := by decide +kernel
theorem d80_0 : Dc C75 0 (.aload_n 0) 1 := by decide +kernel
theorem d80_1 : Dc C75 1 (.getfield 7) 3 := by decide +kernel
theorem d80_4 : Dc C75 4 (.ireturn) 1 := by decide +kernel
theorem d81_0 : Dc C4 0 (.aload_n 0) 1 := by decide +kernel
theorem d81_1 : Dc C4 1 (.getfield 18) 3 := by decide +kernel
theorem d81_4 : Dc C4 4 (.iload_n 2) 1 := by decide +kernel
theorem d81_5 : Dc C4 5 (.invokevirtual 109) 3 := by decide +kernel
theorem d81_8 : Dc C4 8 (.istore 4) 2 := by decide +kernel
theorem d81_10 : Dc C4 10 (.aload_n 0) 1 := by decide +kernel
theorem d81_11 : Dc C4 11 (.getfield 18) 3 := by decide +kernel
theorem d81_14 : Dc C4 14 (.iload_n 1) 1 := by decide +kernel
theorem d81_15 : Dc C4 15 (.iload 4) 2 := by decide +kernel
theorem d81_17 : Dc C4 17 (.invokevirtual 123) 3 := by decide +kernel
theorem d81_20 : Dc C4 20 (.istore 5) 2 := by decide +kernel
theorem d81_22 : Dc C4 22 (.iload_n 3) 1 := by decide +kernel
theorem d81_23 : Dc C4 23 (.ifCond .eq 80) 3 := by decide +kernel
theorem d81_26 : Dc C4 26 (.aload_n 0) 1 := by decide +kernel
theorem d81_27 : Dc C4 27 (.getfield 54) 3 := by decide +kernel
theorem d81_30 : Dc C4 30 (.iload 5) 2 := by decide +kernel
theorem d81_32 : Dc C4 32 (.iaload) 1 := by decide +kernel
theorem d81_33 : Dc C4 33 (.ifCond .lt 70) 3 := by decide +kernel
theorem d81_103 : Dc C4 103 (.aload_n 0) 1 := by decide +kernel
theorem d81_104 : Dc C4 104 (.iload_n 1) 1 := by decide +kernel
theorem d81_105 : Dc C4 105 (.iload_n 2) 1 := by decide +kernel
theorem d81_106 : Dc C4 106 (.iload_n 3) 1 := by decide +kernel
theorem d81_107 : Dc C4 107 (.invokevirtual 257) 3 := by decide +kernel
theorem d81_110 : Dc C4 110 (.iload_n 3) 1 := by decide +kernel
theorem d81_111 : Dc C4 111 (.ifCond .ne 69) 3 := by decide +kernel
theorem d81_114 : Dc C4 114 (.aload_n 0) 1 := by decide +kernel
theorem d81_115 : Dc C4 115 (.getfield 63) 3 := by decide +kernel
theorem d81_118 : Dc C4 118 (.iload 5) 2 := by decide +kernel
theorem d81_120 : Dc C4 120 (.laload) 1 := by decide +kernel
theorem d81_121 : Dc C4 121 (.lconst 0) 1 := by decide +kernel
theorem d81_122 : Dc C4 122 (.lcmp) 1 := by decide +kernel
theorem d81_123 : Dc C4 123 (.ifCond .ne 57) 3 := by decide +kernel
theorem d81_180 : Dc C4 180 (.return_) 1 := by decide +kernel
theorem d82_0 : Dc C65 0 (.iload_n 1) 1 := by decide +kernel
theorem d82_1 : Dc C65 1 (.aload_n 0) 1 := by decide +kernel
theorem d82_2 : Dc C65 2 (.getfield 49) 3 := by decide +kernel
theorem d82_5 : Dc C65 5 (.idiv) 1 := by decide +kernel
theorem d82_6 : Dc C65 6 (.ireturn) 1 := by decide +kernel
theorem d83_0 : Dc C44 0 (.iload_n 1) 1 := by decide +kernel
theorem d83_1 : Dc C44 1 (.aload_n 0) 1 := by decide +kernel
theorem d83_2 : Dc C44 2 (.getfield 33) 3 := by decide +kernel
theorem d83_5 : Dc C44 5 (.invokeinterface 45 1) 5 := by decide +kernel
theorem d83_10 : Dc C44 10 (.imul) 1 := by decide +kernel
theorem d83_11 : Dc C44 11 (.iload_n 2) 1 := by decide +kernel
theorem d83_12 : Dc C44 12 (.iadd) 1 := by decide +kernel
theorem d83_13 : Dc C44 13 (.ireturn) 1 := by decide +kernel
theorem d84_0 : Dc C5 0 (.aload_n 0) 1 := by decide +kernel
theorem d84_1 : Dc C5 1 (.getfield 18) 3 := by decide +kernel
theorem d84_4 : Dc C5 4 (.iload_n 1) 1 := by decide +kernel
theorem d84_5 : Dc C5 5 (.aload_n 0) 1 := by decide +kernel
theorem d84_6 : Dc C5 6 (.getfield 18) 3 := by decide +kernel
theorem d84_9 : Dc C5 9 (.iload_n 2) 1 := by decide +kernel
theorem d84_10 : Dc C5 10 (.invokevirtual 109) 3 := by decide +kernel
theorem d84_13 : Dc C5 13 (.invokevirtual 123) 3 := by decide +kernel
theorem d84_16 : Dc C5 16 (.istore 4) 2 := by decide +kernel
theorem d84_18 : Dc C5 18 (.iload_n 3) 1 := by decide +kernel
theorem d84_19 : Dc C5 19 (.ifCond .eq 14) 3 := by decide +kernel
theorem d84_22 : Dc C5 22 (.aload_n 0) 1 := by decide +kernel
theorem d84_23 : Dc C5 23 (.getfield 54) 3 := by decide +kernel
theorem d84_26 : Dc C5 26 (.iload 4) 2 := by decide +kernel
theorem d84_28 : Dc C5 28 (.iload_n 2) 1 := by decide +kernel
theorem d84_29 : Dc C5 29 (.iastore) 1 := by decide +kernel
theorem d84_30 : Dc C5 30 (.goto 27) 3 := by decide +kernel
theorem d84_33 : Dc C5 33 (.aload_n 0) 1 := by decide +kernel
theorem d84_34 : Dc C5 34 (.getfield 63) 3 := by decide +kernel
theorem d84_37 : Dc C5 37 (.iload 4) 2 := by decide +kernel
theorem d84_39 : Dc C5 39 (.dup2) 1 := by decide +kernel
theorem d84_40 : Dc C5 40 (.laload) 1 := by decide +kernel
theorem d84_41 : Dc C5 41 (.lconst 1) 1 := by decide +kernel
theorem d84_42 : Dc C5 42 (.aload_n 0) 1 := by decide +kernel
theorem d84_43 : Dc C5 43 (.getfield 18) 3 := by decide +kernel
theorem d84_46 : Dc C5 46 (.iload_n 2) 1 := by decide +kernel
theorem d84_47 : Dc C5 47 (.invokevirtual 113) 3 := by decide +kernel
theorem d84_50 : Dc C5 50 (.lshl) 1 := by decide +kernel
theorem d84_51 : Dc C5 51 (.ldc2_w 294) 3 := by decide +kernel
theorem d84_54 : Dc C5 54 (.lxor) 1 := by decide +kernel
theorem d84_55 : Dc C5 55 (.land) 1 := by decide +kernel
theorem d84_56 : Dc C5 56 (.lastore) 1 := by decide +kernel
theorem d84_57 : Dc C5 57 (.return_) 1 := by decide +kernel
theorem d85_0 : Dc C66 0 (.iload_n 1) 1 := by decide +kernel
theorem d85_1 : Dc C66 1 (.aload_n 0) 1 := by decide +kernel
theorem d85_2 : Dc C66 2 (.getfield 49) 3 := by decide +kernel
theorem d85_5 : Dc C66 5 (.irem) 1 := by decide +kernel
theorem d85_6 : Dc C66 6 (.ireturn) 1 := by decide +kernel
theorem d86_0 : Dc C13 0 (.iconst 0) 1 := by decide +kernel
theorem d86_1 : Dc C13 1 (.istore_n 3) 1 := by decide +kernel
theorem d86_2 : Dc C13 2 (.iload_n 3) 1 := by decide +kernel
theorem d86_3 : Dc C13 3 (.aload_n 0) 1 := by decide +kernel
theorem d86_4 : Dc C13 4 (.getfield 34) 3 := by decide +kernel
theorem d86_7 : Dc C13 7 (.if_icmp .ge 100) 3 := by decide +kernel
theorem d86_10 : Dc C13 10 (.iload_n 3) 1 := by decide +kernel
theorem d86_11 : Dc C13 11 (.aload_n 0) 1 := by decide +kernel
theorem d86_12 : Dc C13 12 (.getfield 18) 3 := by decide +kernel
theorem d86_15 : Dc C13 15 (.iload_n 1) 1 := by decide +kernel
theorem d86_16 : Dc C13 16 (.invokevirtual 109) 3 := by decide +kernel
theorem d86_19 : Dc C13 19 (.if_icmp .eq 82) 3 := by decide +kernel
theorem d86_22 : Dc C13 22 (.iload_n 3) 1 := by decide +kernel
theorem d86_23 : Dc C13 23 (.aload_n 0) 1 := by decide +kernel
theorem d86_24 : Dc C13 24 (.getfield 18) 3 := by decide +kernel
theorem d86_27 : Dc C13 27 (.iload_n 2) 1 := by decide +kernel
theorem d86_28 : Dc C13 28 (.invokevirtual 109) 3 := by decide +kernel
theorem d86_31 : Dc C13 31 (.if_icmp .ne 6) 3 := by decide +kernel
theorem d86_34 : Dc C13 34 (.goto 67) 3 := by decide +kernel
theorem d86_101 : Dc C13 101 (.iinc 3 1) 3 := by decide +kernel
theorem d86_104 : Dc C13 104 (.goto (-102)) 3 := by decide +kernel
theorem d86_107 : Dc C13 107 (.return_) 1 := by decide +kernel
theorem d87_0 : Dc C14 0 (.iconst 0) 1 := by decide +kernel
theorem d87_1 : Dc C14 1 (.istore_n 3) 1 := by decide +kernel
theorem d87_2 : Dc C14 2 (.iload_n 3) 1 := by decide +kernel
theorem d87_3 : Dc C14 3 (.aload_n 0) 1 := by decide +kernel
theorem d87_4 : Dc C14 4 (.getfield 34) 3 := by decide +kernel
theorem d87_7 : Dc C14 7 (.if_icmp .ge 67) 3 := by decide +kernel
theorem d87_10 : Dc C14 10 (.iload_n 3) 1 := by decide +kernel
theorem d87_11 : Dc C14 11 (.aload_n 0) 1 := by decide +kernel
theorem d87_12 : Dc C14 12 (.getfield 18) 3 := by decide +kernel
theorem d87_15 : Dc C14 15 (.iload_n 1) 1 := by decide +kernel
theorem d87_16 : Dc C14 16 (.invokevirtual 109) 3 := by decide +kernel
theorem d87_19 : Dc C14 19 (.if_icmp .eq 49) 3 := by decide +kernel
theorem d87_22 : Dc C14 22 (.iload_n 3) 1 := by decide +kernel
theorem d87_23 : Dc C14 23 (.aload_n 0) 1 := by decide +kernel
theorem d87_24 : Dc C14 24 (.getfield 18) 3 := by decide +kernel
theorem d87_27 : Dc C14 27 (.iload_n 2) 1 := by decide +kernel
theorem d87_28 : Dc C14 28 (.invokevirtual 109) 3 := by decide +kernel
theorem d87_31 : Dc C14 31 (.if_icmp .ne 6) 3 := by decide +kernel
theorem d87_34 : Dc C14 34 (.goto 34) 3 := by decide +kernel
theorem d87_68 : Dc C14 68 (.iinc 3 1) 3 := by decide +kernel
theorem d87_71 : Dc C14 71 (.goto (-69)) 3 := by decide +kernel
theorem d87_74 : Dc C14 74 (.return_) 1 := by decide +kernel
theorem pd_0 : parseMethodDescriptor "()V" = some ⟨[], none⟩ := by decide +kernel
theorem pd_1 : parseMethodDescriptor "(C)Z" = some ⟨[.char], some .boolean⟩ := by decide +kernel
theorem pd_2 : parseMethodDescriptor "(C)[B" = some ⟨[.char], some (.array .byte)⟩ := by decide +kernel
theorem pd_3 : parseMethodDescriptor "([BB)V" = some ⟨[(.array .byte), .byte], none⟩ := by decide +kernel
theorem pd_4 : parseMethodDescriptor "(C)Ljava/lang/String;" = some ⟨[.char], some (.object "java/lang/String")⟩ := by decide +kernel
theorem pd_5 : parseMethodDescriptor "(II)I" = some ⟨[.int, .int], some .int⟩ := by decide +kernel
theorem pd_6 : parseMethodDescriptor "(I)[Ljava/lang/Object;" = some ⟨[.int], some (.array (.object "java/lang/Object"))⟩ := by decide +kernel
theorem pd_7 : parseMethodDescriptor "()[Ljava/lang/Object;" = some ⟨[], some (.array (.object "java/lang/Object"))⟩ := by decide +kernel
theorem pd_8 : parseMethodDescriptor "(Ljava/lang/Object;[Ljava/lang/Object;I)V" = some ⟨[(.object "java/lang/Object"), (.array (.object "java/lang/Object")), .int], none⟩ := by decide +kernel
theorem pd_9 : parseMethodDescriptor "(Ljava/lang/Object;)Z" = some ⟨[(.object "java/lang/Object")], some .boolean⟩ := by decide +kernel
theorem pd_10 : parseMethodDescriptor "()Z" = some ⟨[], some .boolean⟩ := by decide +kernel
theorem pd_11 : parseMethodDescriptor "([Ljava/lang/Object;ILjava/lang/Class;)[Ljava/lang/Object;" = some ⟨[(.array (.object "java/lang/Object")), .int, (.object "java/lang/Class")], some (.array (.object "java/lang/Object"))⟩ := by decide +kernel
theorem pd_12 : parseMethodDescriptor "([Ljava/lang/Object;I)[Ljava/lang/Object;" = some ⟨[(.array (.object "java/lang/Object")), .int], some (.array (.object "java/lang/Object"))⟩ := by decide +kernel
theorem pd_13 : parseMethodDescriptor "(Ljava/lang/Object;)Ljava/lang/Object;" = some ⟨[(.object "java/lang/Object")], some (.object "java/lang/Object")⟩ := by decide +kernel
theorem pd_14 : parseMethodDescriptor "([Ljava/lang/Object;Z)V" = some ⟨[(.array (.object "java/lang/Object")), .boolean], none⟩ := by decide +kernel
theorem pd_15 : parseMethodDescriptor "([Ljava/lang/Object;)Ljava/util/List;" = some ⟨[(.array (.object "java/lang/Object"))], some (.object "java/util/List")⟩ := by decide +kernel
theorem pd_16 : parseMethodDescriptor "(Ljava/util/Collection;)Ljava/util/List;" = some ⟨[(.object "java/util/Collection")], some (.object "java/util/List")⟩ := by decide +kernel
theorem pd_17 : parseMethodDescriptor "(Ljava/lang/String;Ljava/util/List;)V" = some ⟨[(.object "java/lang/String"), (.object "java/util/List")], none⟩ := by decide +kernel
theorem pd_18 : parseMethodDescriptor "(Ljava/lang/String;C)Lcom/example/cluewright/cluewright/Category;" = some ⟨[(.object "java/lang/String"), .char], some (.object "com/example/cluewright/cluewright/Category")⟩ := by decide +kernel
theorem pd_19 : parseMethodDescriptor "(Ljava/lang/Object;Ljava/lang/Object;)V" = some ⟨[(.object "java/lang/Object"), (.object "java/lang/Object")], none⟩ := by decide +kernel
theorem pd_20 : parseMethodDescriptor "(IILjava/util/function/BiFunction;)I" = some ⟨[.int, .int, (.object "java/util/function/BiFunction")], some .int⟩ := by decide +kernel
theorem pd_21 : parseMethodDescriptor "(I)Ljava/lang/Object;" = some ⟨[.int], some (.object "java/lang/Object")⟩ := by decide +kernel
theorem pd_22 : parseMethodDescriptor "()Ljava/util/List;" = some ⟨[], some (.object "java/util/List")⟩ := by decide +kernel
theorem pd_23 : parseMethodDescriptor "()I" = some ⟨[], some .int⟩ := by decide +kernel
theorem pd_24 : parseMethodDescriptor "(Ljava/util/ArrayList;)V" = some ⟨[(.object "java/util/ArrayList")], none⟩ := by decide +kernel
theorem pd_25 : parseMethodDescriptor "()Ljava/util/Iterator;" = some ⟨[], some (.object "java/util/Iterator")⟩ := by decide +kernel
theorem pd_26 : parseMethodDescriptor "()Ljava/lang/Object;" = some ⟨[], some (.object "java/lang/Object")⟩ := by decide +kernel
theorem pd_27 : parseMethodDescriptor "(Ljava/util/List;I)V" = some ⟨[(.object "java/util/List"), .int], none⟩ := by decide +kernel
theorem pd_28 : parseMethodDescriptor "(I)Ljava/lang/Integer;" = some ⟨[.int], some (.object "java/lang/Integer")⟩ := by decide +kernel
theorem pd_29 : parseMethodDescriptor "([B)I" = some ⟨[(.array .byte)], some .int⟩ := by decide +kernel
theorem pd_30 : parseMethodDescriptor "(Ljava/lang/Object;)I" = some ⟨[(.object "java/lang/Object")], some .int⟩ := by decide +kernel
theorem pd_31 : parseMethodDescriptor "()[Ljava/util/HashMap$Node;" = some ⟨[], some (.array (.object "java/util/HashMap$Node"))⟩ := by decide +kernel
theorem pd_32 : parseMethodDescriptor "(ILjava/lang/Object;Ljava/lang/Object;Ljava/util/HashMap$Node;)V" = some ⟨[.int, (.object "java/lang/Object"), (.object "java/lang/Object"), (.object "java/util/HashMap$Node")], none⟩ := by decide +kernel
theorem pd_33 : parseMethodDescriptor "(ILjava/lang/Object;Ljava/lang/Object;Ljava/util/HashMap$Node;)Ljava/util/HashMap$Node;" = some ⟨[.int, (.object "java/lang/Object"), (.object "java/lang/Object"), (.object "java/util/HashMap$Node")], some (.object "java/util/HashMap$Node")⟩ := by decide +kernel
theorem pd_34 : parseMethodDescriptor "(Z)V" = some ⟨[.boolean], none⟩ := by decide +kernel
theorem pd_35 : parseMethodDescriptor "(ILjava/lang/Object;Ljava/lang/Object;ZZ)Ljava/lang/Object;" = some ⟨[.int, (.object "java/lang/Object"), (.object "java/lang/Object"), .boolean, .boolean], some (.object "java/lang/Object")⟩ := by decide +kernel
theorem pd_36 : parseMethodDescriptor "(Ljava/lang/Object;Ljava/lang/Object;)Ljava/lang/Object;" = some ⟨[(.object "java/lang/Object"), (.object "java/lang/Object")], some (.object "java/lang/Object")⟩ := by decide +kernel
theorem pd_37 : parseMethodDescriptor "([II)V" = some ⟨[(.array .int), .int], none⟩ := by decide +kernel
theorem pd_38 : parseMethodDescriptor "([JJ)V" = some ⟨[(.array .long), .long], none⟩ := by decide +kernel
theorem pd_39 : parseMethodDescriptor "(Lcom/example/cluewright/cluewright/Puzzle;)V" = some ⟨[(.object "com/example/cluewright/cluewright/Puzzle")], none⟩ := by decide +kernel
theorem pd_40 : parseMethodDescriptor "(IIZ)I" = some ⟨[.int, .int, .boolean], some .int⟩ := by decide +kernel
theorem pd_41 : parseMethodDescriptor "([III)V" = some ⟨[(.array .int), .int, .int], none⟩ := by decide +kernel
theorem pd_42 : parseMethodDescriptor "(Ljava/util/DualPivotQuicksort$Sorter;[IIII)V" = some ⟨[(.object "java/util/DualPivotQuicksort$Sorter"), (.array .int), .int, .int, .int], none⟩ := by decide +kernel
theorem pd_43 : parseMethodDescriptor "([IIII)V" = some ⟨[(.array .int), .int, .int, .int], none⟩ := by decide +kernel
theorem pd_44 : parseMethodDescriptor "([I)V" = some ⟨[(.array .int)], none⟩ := by decide +kernel
theorem pd_45 : parseMethodDescriptor "([I)[I" = some ⟨[(.array .int)], some (.array .int)⟩ := by decide +kernel
theorem pd_46 : parseMethodDescriptor "(IIIZLcom/example/cluewright/cluewright/Reason;Lcom/example/cluewright/cluewright/Clue;[ILcom/example/cluewright/cluewright/Chain;)V" = some ⟨[.int, .int, .int, .boolean, (.object "com/example/cluewright/cluewright/Reason"), (.object "com/example/cluewright/cluewright/Clue"), (.array .int), (.object "com/example/cluewright/cluewright/Chain")], none⟩ := by decide +kernel
theorem pd_47 : parseMethodDescriptor "(I)I" = some ⟨[.int], some .int⟩ := by decide +kernel
theorem pd_48 : parseMethodDescriptor "(IIZ)V" = some ⟨[.int, .int, .boolean], none⟩ := by decide +kernel
theorem pd_49 : parseMethodDescriptor "(II)V" = some ⟨[.int, .int], none⟩ := by decide +kernel
theorem pd_50 : parseMethodDescriptor "(IIZLcom/example/cluewright/cluewright/Reason;Lcom/example/cluewright/cluewright/Clue;Lcom/example/cluewright/cluewright/Chain;[I)V" = some ⟨[.int, .int, .boolean, (.object "com/example/cluewright/cluewright/Reason"), (.object "com/example/cluewright/cluewright/Clue"), (.object "com/example/cluewright/cluewright/Chain"), (.array .int)], none⟩ := by decide +kernel
theorem pd_51 : parseMethodDescriptor "(IIZLcom/example/cluewright/cluewright/Reason;Lcom/example/cluewright/cluewright/Clue;[I)V" = some ⟨[.int, .int, .boolean, (.object "com/example/cluewright/cluewright/Reason"), (.object "com/example/cluewright/cluewright/Clue"), (.array .int)], none⟩ := by decide +kernel
theorem pn0 : plainName "com/example/cluewright/cluewright/Category" = true := by first | (simp [plainName, overriddenIn]; done) | decide +kernel
theorem pn1 : plainName "com/example/cluewright/cluewright/Grid" = true := by first | (simp [plainName, overriddenIn]; done) | decide +kernel
theorem pn2 : plainName "com/example/cluewright/cluewright/GridFilledFromPinLaw" = true := by first | (simp [plainName, overriddenIn]; done) | decide +kernel
theorem pn3 : plainName "com/example/cluewright/cluewright/Puzzle" = true := by first | (simp [plainName, overriddenIn]; done) | decide +kernel
theorem pn4 : plainName "com/example/cluewright/cluewright/Step" = true := by first | (simp [plainName, overriddenIn]; done) | decide +kernel
theorem pn5 : plainName "java/lang/Integer" = true := by first | (simp [plainName, overriddenIn]; done) | decide +kernel
theorem pn6 : plainName "java/lang/Record" = true := by first | (simp [plainName, overriddenIn]; done) | decide +kernel
theorem pn7 : plainName "java/lang/String" = true := by first | (simp [plainName, overriddenIn]; done) | decide +kernel
theorem pn8 : plainName "java/lang/StringLatin1" = true := by first | (simp [plainName, overriddenIn]; done) | decide +kernel
theorem pn9 : plainName "java/util/AbstractCollection" = true := by first | (simp [plainName, overriddenIn]; done) | decide +kernel
theorem pn10 : plainName "java/util/AbstractList" = true := by first | (simp [plainName, overriddenIn]; done) | decide +kernel
theorem pn11 : plainName "java/util/AbstractMap" = true := by first | (simp [plainName, overriddenIn]; done) | decide +kernel
theorem pn12 : plainName "java/util/ArrayList" = true := by first | (simp [plainName, overriddenIn]; done) | decide +kernel
theorem pn13 : plainName "java/util/ArrayList$Itr" = true := by first | (simp [plainName, overriddenIn]; done) | decide +kernel
theorem pn14 : plainName "java/util/Arrays" = true := by first | (simp [plainName, overriddenIn]; done) | decide +kernel
theorem pn15 : plainName "java/util/DualPivotQuicksort" = true := by first | (simp [plainName, overriddenIn]; done) | decide +kernel
theorem pn16 : plainName "java/util/HashMap" = true := by first | (simp [plainName, overriddenIn]; done) | decide +kernel
theorem pn17 : plainName "java/util/HashMap$Node" = true := by first | (simp [plainName, overriddenIn]; done) | decide +kernel
theorem pn18 : plainName "java/util/ImmutableCollections" = true := by first | (simp [plainName, overriddenIn]; done) | decide +kernel
theorem pn19 : plainName "java/util/ImmutableCollections$AbstractImmutableCollection" = true := by first | (simp [plainName, overriddenIn]; done) | decide +kernel
theorem pn20 : plainName "java/util/ImmutableCollections$AbstractImmutableList" = true := by first | (simp [plainName, overriddenIn]; done) | decide +kernel
theorem pn21 : plainName "java/util/ImmutableCollections$List12" = true := by first | (simp [plainName, overriddenIn]; done) | decide +kernel
theorem pn22 : plainName "java/util/ImmutableCollections$ListItr" = true := by first | (simp [plainName, overriddenIn]; done) | decide +kernel
theorem pn23 : plainName "java/util/ImmutableCollections$ListN" = true := by first | (simp [plainName, overriddenIn]; done) | decide +kernel
theorem pn24 : plainName "java/util/List" = true := by first | (simp [plainName, overriddenIn]; done) | decide +kernel
theorem pn25 : plainName "java/util/Objects" = true := by first | (simp [plainName, overriddenIn]; done) | decide +kernel
theorem pn26 : plainName "jdk/internal/util/Preconditions" = true := by first | (simp [plainName, overriddenIn]; done) | decide +kernel
theorem ef_0 (x0 : Addr) (m : MethodId) : entryFrame m #[(.ref x0)] 1 = mkF m 0 #[.val (.ref x0)] [] := by first | (simp [entryFrame, mkF, argsToLocals, Value.category]; done) | rfl
theorem ef_1  (m : MethodId) : entryFrame m #[(.int (97 : Int32))] 1 = mkF m 0 #[.val (.int (97 : Int32))] [] := by first | (simp [entryFrame, mkF, argsToLocals, Value.category]; done) | rfl
theorem ef_2 (x0 : Addr) (x1 : Addr) (m : MethodId) : entryFrame m #[(.ref x0), (.ref x1), (.int (0 : Int32))] 3 = mkF m 0 #[.val (.ref x0), .val (.ref x1), .val (.int (0 : Int32))] [] := by first | (simp [entryFrame, mkF, argsToLocals, Value.category]; done) | rfl
theorem ef_3  (m : MethodId) : entryFrame m #[(.int (10 : Int32)), (.int (1 : Int32))] 2 = mkF m 0 #[.val (.int (10 : Int32)), .val (.int (1 : Int32))] [] := by first | (simp [entryFrame, mkF, argsToLocals, Value.category]; done) | rfl
theorem ef_4 (x0 : Addr) (m : MethodId) : entryFrame m #[(.ref x0), (.int (1 : Int32))] 4 = mkF m 0 #[.val (.ref x0), .val (.int (1 : Int32)), .unset, .unset] [] := by first | (simp [entryFrame, mkF, argsToLocals, Value.category]; done) | rfl
theorem ef_5 (x0 : Addr) (x1 : Addr) (x2 : Addr) (m : MethodId) : entryFrame m #[(.ref x0), (.ref x1), (.ref x2), (.int (0 : Int32))] 4 = mkF m 0 #[.val (.ref x0), .val (.ref x1), .val (.ref x2), .val (.int (0 : Int32))] [] := by first | (simp [entryFrame, mkF, argsToLocals, Value.category]; done) | rfl
theorem ef_6 (x0 : Addr) (x1 : Addr) (m : MethodId) : entryFrame m #[(.ref x0), (.ref x1)] 2 = mkF m 0 #[.val (.ref x0), .val (.ref x1)] [] := by first | (simp [entryFrame, mkF, argsToLocals, Value.category]; done) | rfl
theorem ef_7  (m : MethodId) : entryFrame m #[(.int (98 : Int32))] 1 = mkF m 0 #[.val (.int (98 : Int32))] [] := by first | (simp [entryFrame, mkF, argsToLocals, Value.category]; done) | rfl
theorem ef_8 (x0 : Addr) (x1 : Addr) (x2 : Addr) (m : MethodId) : entryFrame m #[(.ref x0), (.ref x1), (.ref x2), (.int (1 : Int32))] 4 = mkF m 0 #[.val (.ref x0), .val (.ref x1), .val (.ref x2), .val (.int (1 : Int32))] [] := by first | (simp [entryFrame, mkF, argsToLocals, Value.category]; done) | rfl
theorem ef_9  (m : MethodId) : entryFrame m #[(.int (99 : Int32))] 1 = mkF m 0 #[.val (.int (99 : Int32))] [] := by first | (simp [entryFrame, mkF, argsToLocals, Value.category]; done) | rfl
theorem ef_10 (x0 : Addr) (x1 : Addr) (x2 : Addr) (m : MethodId) : entryFrame m #[(.ref x0), (.ref x1), (.ref x2), (.int (2 : Int32))] 4 = mkF m 0 #[.val (.ref x0), .val (.ref x1), .val (.ref x2), .val (.int (2 : Int32))] [] := by first | (simp [entryFrame, mkF, argsToLocals, Value.category]; done) | rfl
theorem ef_11  (m : MethodId) : entryFrame m #[(.int (10 : Int32)), (.int (3 : Int32))] 2 = mkF m 0 #[.val (.int (10 : Int32)), .val (.int (3 : Int32))] [] := by first | (simp [entryFrame, mkF, argsToLocals, Value.category]; done) | rfl
theorem ef_12 (x0 : Addr) (x1 : Addr) (m : MethodId) : entryFrame m #[(.ref x0), (.int (3 : Int32)), (.ref x1)] 4 = mkF m 0 #[.val (.ref x0), .val (.int (3 : Int32)), .val (.ref x1), .unset] [] := by first | (simp [entryFrame, mkF, argsToLocals, Value.category]; done) | rfl
theorem ef_13 (x0 : Addr) (m : MethodId) : entryFrame m #[(.ref x0), (.int (3 : Int32))] 2 = mkF m 0 #[.val (.ref x0), .val (.int (3 : Int32))] [] := by first | (simp [entryFrame, mkF, argsToLocals, Value.category]; done) | rfl
theorem ef_14 (x0 : Addr) (m : MethodId) : entryFrame m #[(.ref x0)] 3 = mkF m 0 #[.val (.ref x0), .unset, .unset] [] := by first | (simp [entryFrame, mkF, argsToLocals, Value.category]; done) | rfl
theorem ef_15 (x0 : Addr) (m : MethodId) : entryFrame m #[(.ref x0)] 2 = mkF m 0 #[.val (.ref x0), .unset] [] := by first | (simp [entryFrame, mkF, argsToLocals, Value.category]; done) | rfl
theorem ef_16 (x0 : Addr) (x1 : Addr) (x2 : Addr) (m : MethodId) : entryFrame m #[(.ref x0), (.ref x1), (.ref x2)] 3 = mkF m 0 #[.val (.ref x0), .val (.ref x1), .val (.ref x2)] [] := by first | (simp [entryFrame, mkF, argsToLocals, Value.category]; done) | rfl
theorem ef_17 (x0 : Addr) (m : MethodId) : entryFrame m #[(.ref x0), (.int (97 : Int32))] 3 = mkF m 0 #[.val (.ref x0), .val (.int (97 : Int32)), .unset] [] := by first | (simp [entryFrame, mkF, argsToLocals, Value.category]; done) | rfl
theorem ef_18  (m : MethodId) : entryFrame m #[(.int (100 : Int32))] 1 = mkF m 0 #[.val (.int (100 : Int32))] [] := by first | (simp [entryFrame, mkF, argsToLocals, Value.category]; done) | rfl
theorem ef_19  (m : MethodId) : entryFrame m #[(.int (101 : Int32))] 1 = mkF m 0 #[.val (.int (101 : Int32))] [] := by first | (simp [entryFrame, mkF, argsToLocals, Value.category]; done) | rfl
theorem ef_20  (m : MethodId) : entryFrame m #[(.int (102 : Int32))] 1 = mkF m 0 #[.val (.int (102 : Int32))] [] := by first | (simp [entryFrame, mkF, argsToLocals, Value.category]; done) | rfl
theorem ef_21 (x0 : Addr) (m : MethodId) : entryFrame m #[(.ref x0), (.int (100 : Int32))] 3 = mkF m 0 #[.val (.ref x0), .val (.int (100 : Int32)), .unset] [] := by first | (simp [entryFrame, mkF, argsToLocals, Value.category]; done) | rfl
theorem ef_22  (m : MethodId) : entryFrame m #[(.int (10 : Int32)), (.int (2 : Int32))] 2 = mkF m 0 #[.val (.int (10 : Int32)), .val (.int (2 : Int32))] [] := by first | (simp [entryFrame, mkF, argsToLocals, Value.category]; done) | rfl
theorem ef_23 (x0 : Addr) (x1 : Addr) (m : MethodId) : entryFrame m #[(.ref x0), (.int (2 : Int32)), (.ref x1)] 4 = mkF m 0 #[.val (.ref x0), .val (.int (2 : Int32)), .val (.ref x1), .unset] [] := by first | (simp [entryFrame, mkF, argsToLocals, Value.category]; done) | rfl
theorem ef_24 (x0 : Addr) (m : MethodId) : entryFrame m #[(.ref x0), (.int (2 : Int32))] 2 = mkF m 0 #[.val (.ref x0), .val (.int (2 : Int32))] [] := by first | (simp [entryFrame, mkF, argsToLocals, Value.category]; done) | rfl
theorem ef_25  (m : MethodId) : entryFrame m #[(.int (0 : Int32)), (.int (2 : Int32)), .null] 3 = mkF m 0 #[.val (.int (0 : Int32)), .val (.int (2 : Int32)), .val .null] [] := by first | (simp [entryFrame, mkF, argsToLocals, Value.category]; done) | rfl
theorem ef_26  (m : MethodId) : entryFrame m #[(.int (0 : Int32)), (.int (2 : Int32))] 2 = mkF m 0 #[.val (.int (0 : Int32)), .val (.int (2 : Int32))] [] := by first | (simp [entryFrame, mkF, argsToLocals, Value.category]; done) | rfl
theorem ef_27 (x0 : Addr) (m : MethodId) : entryFrame m #[(.ref x0), (.int (0 : Int32))] 2 = mkF m 0 #[.val (.ref x0), .val (.int (0 : Int32))] [] := by first | (simp [entryFrame, mkF, argsToLocals, Value.category]; done) | rfl
theorem ef_28 (x0 : Addr) (x1 : Addr) (m : MethodId) : entryFrame m #[(.ref x0), (.ref x1), (.int (3 : Int32))] 3 = mkF m 0 #[.val (.ref x0), .val (.ref x1), .val (.int (3 : Int32))] [] := by first | (simp [entryFrame, mkF, argsToLocals, Value.category]; done) | rfl
theorem ef_29  (m : MethodId) : entryFrame m #[(.int (0 : Int32))] 1 = mkF m 0 #[.val (.int (0 : Int32))] [] := by first | (simp [entryFrame, mkF, argsToLocals, Value.category]; done) | rfl
theorem ef_30 (x0 : Addr) (m : MethodId) : entryFrame m #[(.ref x0)] 14 = mkF m 0 #[.val (.ref x0), .unset, .unset, .unset, .unset, .unset, .unset, .unset, .unset, .unset, .unset, .unset, .unset, .unset] [] := by first | (simp [entryFrame, mkF, argsToLocals, Value.category]; done) | rfl
theorem ef_31 (x0 : Addr) (x1 : Addr) (x2 : Addr) (m : MethodId) : entryFrame m #[(.ref x0), (.int (97 : Int32)), (.ref x1), (.ref x2), .null] 5 = mkF m 0 #[.val (.ref x0), .val (.int (97 : Int32)), .val (.ref x1), .val (.ref x2), .val .null] [] := by first | (simp [entryFrame, mkF, argsToLocals, Value.category]; done) | rfl
theorem ef_32 (x0 : Addr) (m : MethodId) : entryFrame m #[(.ref x0), (.int (1 : Int32))] 2 = mkF m 0 #[.val (.ref x0), .val (.int (1 : Int32))] [] := by first | (simp [entryFrame, mkF, argsToLocals, Value.category]; done) | rfl
theorem ef_33 (x0 : Addr) (x1 : Addr) (x2 : Addr) (m : MethodId) : entryFrame m #[(.ref x0), (.int (97 : Int32)), (.ref x1), (.ref x2), (.int (0 : Int32)), (.int (1 : Int32))] 13 = mkF m 0 #[.val (.ref x0), .val (.int (97 : Int32)), .val (.ref x1), .val (.ref x2), .val (.int (0 : Int32)), .val (.int (1 : Int32)), .unset, .unset, .unset, .unset, .unset, .unset, .unset] [] := by first | (simp [entryFrame, mkF, argsToLocals, Value.category]; done) | rfl
theorem ef_34  (m : MethodId) : entryFrame m #[(.int (1 : Int32))] 1 = mkF m 0 #[.val (.int (1 : Int32))] [] := by first | (simp [entryFrame, mkF, argsToLocals, Value.category]; done) | rfl
theorem ef_35 (x0 : Addr) (x1 : Addr) (x2 : Addr) (m : MethodId) : entryFrame m #[(.ref x0), (.int (98 : Int32)), (.ref x1), (.ref x2), .null] 5 = mkF m 0 #[.val (.ref x0), .val (.int (98 : Int32)), .val (.ref x1), .val (.ref x2), .val .null] [] := by first | (simp [entryFrame, mkF, argsToLocals, Value.category]; done) | rfl
theorem ef_36 (x0 : Addr) (x1 : Addr) (x2 : Addr) (m : MethodId) : entryFrame m #[(.ref x0), (.int (98 : Int32)), (.ref x1), (.ref x2), (.int (0 : Int32)), (.int (1 : Int32))] 13 = mkF m 0 #[.val (.ref x0), .val (.int (98 : Int32)), .val (.ref x1), .val (.ref x2), .val (.int (0 : Int32)), .val (.int (1 : Int32)), .unset, .unset, .unset, .unset, .unset, .unset, .unset] [] := by first | (simp [entryFrame, mkF, argsToLocals, Value.category]; done) | rfl
theorem ef_37  (m : MethodId) : entryFrame m #[(.int (2 : Int32))] 1 = mkF m 0 #[.val (.int (2 : Int32))] [] := by first | (simp [entryFrame, mkF, argsToLocals, Value.category]; done) | rfl
theorem ef_38 (x0 : Addr) (x1 : Addr) (x2 : Addr) (m : MethodId) : entryFrame m #[(.ref x0), (.int (99 : Int32)), (.ref x1), (.ref x2), .null] 5 = mkF m 0 #[.val (.ref x0), .val (.int (99 : Int32)), .val (.ref x1), .val (.ref x2), .val .null] [] := by first | (simp [entryFrame, mkF, argsToLocals, Value.category]; done) | rfl
theorem ef_39 (x0 : Addr) (x1 : Addr) (x2 : Addr) (m : MethodId) : entryFrame m #[(.ref x0), (.int (99 : Int32)), (.ref x1), (.ref x2), (.int (0 : Int32)), (.int (1 : Int32))] 13 = mkF m 0 #[.val (.ref x0), .val (.int (99 : Int32)), .val (.ref x1), .val (.ref x2), .val (.int (0 : Int32)), .val (.int (1 : Int32)), .unset, .unset, .unset, .unset, .unset, .unset, .unset] [] := by first | (simp [entryFrame, mkF, argsToLocals, Value.category]; done) | rfl
theorem ef_40  (m : MethodId) : entryFrame m #[(.int (3 : Int32))] 1 = mkF m 0 #[.val (.int (3 : Int32))] [] := by first | (simp [entryFrame, mkF, argsToLocals, Value.category]; done) | rfl
theorem ef_41 (x0 : Addr) (x1 : Addr) (x2 : Addr) (m : MethodId) : entryFrame m #[(.ref x0), (.int (100 : Int32)), (.ref x1), (.ref x2), .null] 5 = mkF m 0 #[.val (.ref x0), .val (.int (100 : Int32)), .val (.ref x1), .val (.ref x2), .val .null] [] := by first | (simp [entryFrame, mkF, argsToLocals, Value.category]; done) | rfl
theorem ef_42 (x0 : Addr) (x1 : Addr) (x2 : Addr) (m : MethodId) : entryFrame m #[(.ref x0), (.int (100 : Int32)), (.ref x1), (.ref x2), (.int (0 : Int32)), (.int (1 : Int32))] 13 = mkF m 0 #[.val (.ref x0), .val (.int (100 : Int32)), .val (.ref x1), .val (.ref x2), .val (.int (0 : Int32)), .val (.int (1 : Int32)), .unset, .unset, .unset, .unset, .unset, .unset, .unset] [] := by first | (simp [entryFrame, mkF, argsToLocals, Value.category]; done) | rfl
theorem ef_43  (m : MethodId) : entryFrame m #[(.int (4 : Int32))] 1 = mkF m 0 #[.val (.int (4 : Int32))] [] := by first | (simp [entryFrame, mkF, argsToLocals, Value.category]; done) | rfl
theorem ef_44 (x0 : Addr) (x1 : Addr) (x2 : Addr) (m : MethodId) : entryFrame m #[(.ref x0), (.int (101 : Int32)), (.ref x1), (.ref x2), .null] 5 = mkF m 0 #[.val (.ref x0), .val (.int (101 : Int32)), .val (.ref x1), .val (.ref x2), .val .null] [] := by first | (simp [entryFrame, mkF, argsToLocals, Value.category]; done) | rfl
theorem ef_45 (x0 : Addr) (x1 : Addr) (x2 : Addr) (m : MethodId) : entryFrame m #[(.ref x0), (.int (101 : Int32)), (.ref x1), (.ref x2), (.int (0 : Int32)), (.int (1 : Int32))] 13 = mkF m 0 #[.val (.ref x0), .val (.int (101 : Int32)), .val (.ref x1), .val (.ref x2), .val (.int (0 : Int32)), .val (.int (1 : Int32)), .unset, .unset, .unset, .unset, .unset, .unset, .unset] [] := by first | (simp [entryFrame, mkF, argsToLocals, Value.category]; done) | rfl
theorem ef_46  (m : MethodId) : entryFrame m #[(.int (5 : Int32))] 1 = mkF m 0 #[.val (.int (5 : Int32))] [] := by first | (simp [entryFrame, mkF, argsToLocals, Value.category]; done) | rfl
theorem ef_47 (x0 : Addr) (x1 : Addr) (x2 : Addr) (m : MethodId) : entryFrame m #[(.ref x0), (.int (102 : Int32)), (.ref x1), (.ref x2), .null] 5 = mkF m 0 #[.val (.ref x0), .val (.int (102 : Int32)), .val (.ref x1), .val (.ref x2), .val .null] [] := by first | (simp [entryFrame, mkF, argsToLocals, Value.category]; done) | rfl
theorem ef_48 (x0 : Addr) (x1 : Addr) (x2 : Addr) (m : MethodId) : entryFrame m #[(.ref x0), (.int (102 : Int32)), (.ref x1), (.ref x2), (.int (0 : Int32)), (.int (1 : Int32))] 13 = mkF m 0 #[.val (.ref x0), .val (.int (102 : Int32)), .val (.ref x1), .val (.ref x2), .val (.int (0 : Int32)), .val (.int (1 : Int32)), .unset, .unset, .unset, .unset, .unset, .unset, .unset] [] := by first | (simp [entryFrame, mkF, argsToLocals, Value.category]; done) | rfl
theorem ef_49 (x0 : Addr) (x1 : Addr) (x2 : Addr) (m : MethodId) : entryFrame m #[(.ref x0), (.ref x1), (.ref x2)] 8 = mkF m 0 #[.val (.ref x0), .val (.ref x1), .val (.ref x2), .unset, .unset, .unset, .unset, .unset] [] := by first | (simp [entryFrame, mkF, argsToLocals, Value.category]; done) | rfl
theorem ef_50 (x0 : Addr) (m : MethodId) : entryFrame m #[(.ref x0), (.int (-1 : Int32))] 4 = mkF m 0 #[.val (.ref x0), .val (.int (-1 : Int32)), .unset, .unset] [] := by first | (simp [entryFrame, mkF, argsToLocals, Value.category]; done) | rfl
theorem ef_51 (x0 : Addr) (m : MethodId) : entryFrame m #[(.ref x0), (.long (7 : Int64))] 5 = mkF m 0 #[.val (.ref x0), .val (.long (7 : Int64)), .second, .unset, .unset] [] := by first | (simp [entryFrame, mkF, argsToLocals, Value.category]; done) | rfl
theorem ef_52 (x0 : Addr) (x1 : Int32) (x2 : Int32) (m : MethodId) : entryFrame m #[(.ref x0), (.int x1), (.int x2)] 3 = mkF m 0 #[.val (.ref x0), .val (.int x1), .val (.int x2)] [] := by first | (simp [entryFrame, mkF, argsToLocals, Value.category]; done) | rfl
theorem ef_53 (x0 : Addr) (x1 : Int32) (x2 : Int32) (x3 : Int32) (m : MethodId) : entryFrame m #[(.ref x0), (.int x1), (.int x2), (.int x3)] 5 = mkF m 0 #[.val (.ref x0), .val (.int x1), .val (.int x2), .val (.int x3), .unset] [] := by first | (simp [entryFrame, mkF, argsToLocals, Value.category]; done) | rfl
theorem ef_54 (x0 : Int32) (x1 : Int32) (m : MethodId) : entryFrame m #[(.int x0), (.int x1)] 2 = mkF m 0 #[.val (.int x0), .val (.int x1)] [] := by first | (simp [entryFrame, mkF, argsToLocals, Value.category]; done) | rfl
theorem ef_55 (x0 : Addr) (m : MethodId) : entryFrame m #[(.ref x0), (.int (0 : Int32)), (.int (0 : Int32))] 6 = mkF m 0 #[.val (.ref x0), .val (.int (0 : Int32)), .val (.int (0 : Int32)), .unset, .unset, .unset] [] := by first | (simp [entryFrame, mkF, argsToLocals, Value.category]; done) | rfl
theorem ef_56 (x0 : Addr) (m : MethodId) : entryFrame m #[.null, (.ref x0), (.int (0 : Int32)), (.int (0 : Int32)), (.int (0 : Int32))] 21 = mkF m 0 #[.val .null, .val (.ref x0), .val (.int (0 : Int32)), .val (.int (0 : Int32)), .val (.int (0 : Int32)), .unset, .unset, .unset, .unset, .unset, .unset, .unset, .unset, .unset, .unset, .unset, .unset, .unset, .unset, .unset, .unset] [] := by first | (simp [entryFrame, mkF, argsToLocals, Value.category]; done) | rfl
theorem ef_57 (x0 : Addr) (m : MethodId) : entryFrame m #[(.ref x0), (.int (0 : Int32)), (.int (0 : Int32)), (.int (0 : Int32))] 7 = mkF m 0 #[.val (.ref x0), .val (.int (0 : Int32)), .val (.int (0 : Int32)), .val (.int (0 : Int32)), .unset, .unset, .unset] [] := by first | (simp [entryFrame, mkF, argsToLocals, Value.category]; done) | rfl
theorem ef_58 (x0 : Addr) (x1 : Addr) (m : MethodId) : entryFrame m #[(.ref x0), (.ref x1)] 4 = mkF m 0 #[.val (.ref x0), .val (.ref x1), .unset, .unset] [] := by first | (simp [entryFrame, mkF, argsToLocals, Value.category]; done) | rfl
theorem ef_59 (x0 : Addr) (x1 : Int32) (x2 : Int32) (x3 : Int32) (x4 : Addr) (m : MethodId) : entryFrame m #[(.ref x0), (.int (1 : Int32)), (.int x1), (.int x2), (.int x3), .null, .null, (.ref x4), .null] 9 = mkF m 0 #[.val (.ref x0), .val (.int (1 : Int32)), .val (.int x1), .val (.int x2), .val (.int x3), .val .null, .val .null, .val (.ref x4), .val .null] [] := by first | (simp [entryFrame, mkF, argsToLocals, Value.category]; done) | rfl
theorem ef_60 (x0 : Addr) (x1 : Int32) (m : MethodId) : entryFrame m #[(.ref x0), (.int x1)] 2 = mkF m 0 #[.val (.ref x0), .val (.int x1)] [] := by first | (simp [entryFrame, mkF, argsToLocals, Value.category]; done) | rfl
theorem ef_61 (x0 : Addr) (x1 : Int32) (m : MethodId) : entryFrame m #[(.ref x0), (.int x1), (.int (1 : Int32))] 3 = mkF m 0 #[.val (.ref x0), .val (.int x1), .val (.int (1 : Int32))] [] := by first | (simp [entryFrame, mkF, argsToLocals, Value.category]; done) | rfl
theorem ef_62 (x0 : Addr) (x1 : Int32) (x2 : Int32) (m : MethodId) : entryFrame m #[(.ref x0), (.int x1), (.int x2), (.int (0 : Int32))] 5 = mkF m 0 #[.val (.ref x0), .val (.int x1), .val (.int x2), .val (.int (0 : Int32)), .unset] [] := by first | (simp [entryFrame, mkF, argsToLocals, Value.category]; done) | rfl
theorem ef_63 (x0 : Addr) (x1 : Int32) (x2 : Int32) (m : MethodId) : entryFrame m #[(.ref x0), (.int x1), (.int x2), (.int (0 : Int32))] 6 = mkF m 0 #[.val (.ref x0), .val (.int x1), .val (.int x2), .val (.int (0 : Int32)), .unset, .unset] [] := by first | (simp [entryFrame, mkF, argsToLocals, Value.category]; done) | rfl
theorem ef_64 (x0 : Addr) (x1 : Int32) (m : MethodId) : entryFrame m #[(.ref x0), (.int x1), (.int (0 : Int32))] 3 = mkF m 0 #[.val (.ref x0), .val (.int x1), .val (.int (0 : Int32))] [] := by first | (simp [entryFrame, mkF, argsToLocals, Value.category]; done) | rfl
theorem ef_65 (x0 : Addr) (x1 : Int32) (x2 : Int32) (m : MethodId) : entryFrame m #[(.ref x0), (.int x1), (.int x2)] 6 = mkF m 0 #[.val (.ref x0), .val (.int x1), .val (.int x2), .unset, .unset, .unset] [] := by first | (simp [entryFrame, mkF, argsToLocals, Value.category]; done) | rfl
theorem ef_66 (x0 : Addr) (x1 : Int32) (x2 : Int32) (m : MethodId) : entryFrame m #[(.ref x0), (.int x1), (.int x2), (.int (1 : Int32))] 5 = mkF m 0 #[.val (.ref x0), .val (.int x1), .val (.int x2), .val (.int (1 : Int32)), .unset] [] := by first | (simp [entryFrame, mkF, argsToLocals, Value.category]; done) | rfl
theorem ef_67 (x0 : Addr) (x1 : Int32) (x2 : Int32) (m : MethodId) : entryFrame m #[(.ref x0), (.int x1), (.int x2), (.int (1 : Int32))] 6 = mkF m 0 #[.val (.ref x0), .val (.int x1), .val (.int x2), .val (.int (1 : Int32)), .unset, .unset] [] := by first | (simp [entryFrame, mkF, argsToLocals, Value.category]; done) | rfl
theorem ef_68 (x0 : Addr) (x1 : Int32) (x2 : Int32) (m : MethodId) : entryFrame m #[(.ref x0), (.int x1), (.int x2)] 4 = mkF m 0 #[.val (.ref x0), .val (.int x1), .val (.int x2), .unset] [] := by first | (simp [entryFrame, mkF, argsToLocals, Value.category]; done) | rfl
theorem ef_69 (x0 : Addr) (x1 : Int32) (x2 : Int32) (x3 : Int32) (x4 : Addr) (m : MethodId) : entryFrame m #[(.ref x0), (.int x1), (.int x2), (.int x3), .null, .null, .null, (.ref x4)] 12 = mkF m 0 #[.val (.ref x0), .val (.int x1), .val (.int x2), .val (.int x3), .val .null, .val .null, .val .null, .val (.ref x4), .unset, .unset, .unset, .unset] [] := by first | (simp [entryFrame, mkF, argsToLocals, Value.category]; done) | rfl
theorem ef_70 (x0 : Addr) (x1 : Int32) (x2 : Int32) (x3 : Int32) (x4 : Addr) (m : MethodId) : entryFrame m #[(.ref x0), (.int x1), (.int x2), (.int x3), .null, .null, (.ref x4)] 7 = mkF m 0 #[.val (.ref x0), .val (.int x1), .val (.int x2), .val (.int x3), .val .null, .val .null, .val (.ref x4)] [] := by first | (simp [entryFrame, mkF, argsToLocals, Value.category]; done) | rfl
theorem ef_71 (x0 : Addr) (x1 : Int32) (x2 : Int32) (x3 : Int32) (x4 : Addr) (m : MethodId) : entryFrame m #[(.ref x0), (.int (2 : Int32)), (.int x1), (.int x2), (.int x3), .null, .null, (.ref x4), .null] 9 = mkF m 0 #[.val (.ref x0), .val (.int (2 : Int32)), .val (.int x1), .val (.int x2), .val (.int x3), .val .null, .val .null, .val (.ref x4), .val .null] [] := by first | (simp [entryFrame, mkF, argsToLocals, Value.category]; done) | rfl
theorem ef_72 (x0 : Int32) (x1 : Int32) (x2 : Int32) (x3 : Int32) (m : MethodId) : entryFrame m #[(.int x0), (.int x1), (.int x2), (.int x3)] maxLocals = mkF m 0 #[.val (.int x0), .val (.int x1), .val (.int x2), .val (.int x3), .unset, .unset, .unset, .unset, .unset, .unset, .unset, .unset, .unset, .unset, .unset, .unset, .unset, .unset, .unset, .unset, .unset, .unset, .unset] [] := by first | (simp [entryFrame, mkF, argsToLocals, Value.category, maxLocals]; done) | rfl
theorem atomsS {Z : State} {a0 : Array Value} (H : Hyp Z a0) : ∀ a ∈ Bundle.stringAtoms, a.before a0 Z = true := fun a ha => by
  simp only [Bundle.stringAtoms, List.mem_cons, List.not_mem_nil, or_false] at ha
  rcases ha with rfl | rfl | rfl | rfl | rfl | rfl | rfl
  · exact (w28 H)
  · exact (w29 H)
  · exact (w30 H)
  · exact (tw H 31 rfl)
  · exact (tw H 32 rfl)
  · exact (tw H 33 rfl)
  · exact (tw H 34 rfl)
section Walk
variable {Z : State} {a0 : Array Value} {l : Launch} {h0 : Heap}
theorem rm3_1 (H : Hyp Z a0) (a1 : Addr) (Ol0 : Old Z (ζ Z) h0) :
    Mt l Z M2 C78 1 none [] ⟨1, 0, 0, 12⟩ #[.ref a1] h0 (fun v h L => (v = none ∧ Fr (ζ Z) L ∧ h = h0)) := by
  refine g_be (pf pn9) (ef_0 a1) fun T0 K X0 e0 => ?_
  refine G0 X0 K d3_0 rfl rfl ?_
  refine G40 X0 K (W := 0) (tw H 19 rfl) (w20 H) (w21 H) e0 rfl d3_1 (by decide) (Nat.le_of_eq rfl) (by decide) ?_
  intro T1 X1 e1
  refine G17 X1 K d3_4 (by decide) (by decide) ?_
  exact ⟨rfl, (Fr.nil _), e1⟩
theorem rm2_2 (H : Hyp Z a0) (a1 : Addr) (Ol0 : Old Z (ζ Z) h0) (B_1 : Ω0 Z h0 a1 (.int 0) .null (.int 0)) (ge_1 : (ζ Z) ≤ a1) :
    Mt l Z M1 C62 1 none [] ⟨2, 0, 0, 24⟩ #[.ref a1] h0 (fun v h L => (v = none ∧ Fr (ζ Z) L ∧ Keep h0 h [a1] ∧ Ω0 Z h a1 (.int 0) .null (.int 0))) := by
  refine g_be (pf pn10) (ef_0 a1) fun T0 K X0 e0 => ?_
  refine G0 X0 K d2_0 rfl rfl ?_
  refine G23 X0 K (W := 0) rfl (tw H 13 rfl) (tw H 14 rfl) (tw H 17 rfl) (tw H 18 rfl) (by decide) (rm3_1 H a1 Ol0) e0 rfl rfl rfl (lenOf pd_0 rfl) rfl d2_1 (by decide) ?_
  rintro T1 v1 L1 X1 ⟨rfl, N1q, e1⟩
  have N1 := Fr.app (Fr.nil _) N1q
  show Go _ _ _ _ _ (mkF _ _ _ [])
  refine G0 X1 K d2_4 rfl rfl ?_
  refine G3 X1 K (v := 0) d2_5 (by decide) ?_
  refine G5 X1 K (tw H 22 rfl) Via.refl e1 B_1.2.1 B_1.1 (Or.inl (w23 H)) (w2 H) (ty := .int) (by decide) rfl rfl d2_6 ?_
  intro T2 h2 X2 e2 W2 F2
  obtain ⟨N2, Ol2, Kp2⟩ := ivW N1 Ol0 (Keep.refl h0 [a1]) X2 W2 ge_1 (ow 0 rfl)
  have O2 := Ω0.s0 H B_1 W2
  refine G17 X2 K d2_9 (by decide) (by decide) ?_
  have Kp : Keep h0 T2.heap [a1] := by rw [e2]; exact Kp2
  exact ⟨rfl, N2, Kp, (by rw [e2]; exact O2)⟩
theorem rm1_3 (H : Hyp Z a0) (a1 : Addr) (Ol0 : Old Z (ζ Z) h0) (B_1 : Ω0 Z h0 a1 (.int 0) .null (.int 0)) (ge_1 : (ζ Z) ≤ a1) :
    Mt l Z M0 C61 1 none [] ⟨3, 0, 0, 36⟩ #[.ref a1] h0 (fun v h L => (v = none ∧ Fr (ζ Z) L ∧ Keep h0 h [a1] ∧ Ω0 Z h a1 (.int 0) (.ref (ad1 Z a0)) (.int 0))) := by
  refine g_be (pf pn12) (ef_0 a1) fun T0 K X0 e0 => ?_
  refine G0 X0 K d1_0 rfl rfl ?_
  refine G23 X0 K (W := 0) rfl (tw H 7 rfl) (tw H 8 rfl) (tw H 11 rfl) (tw H 12 rfl) (by decide) (rm2_2 H a1 Ol0 B_1 ge_1) e0 rfl rfl rfl (lenOf pd_0 rfl) rfl d1_1 (by decide) ?_
  rintro T1 v1 L1 X1 ⟨rfl, N1q, Kc1, g1⟩
  obtain ⟨N1, Ol1, Kp1⟩ := ivK (Fr.nil _) Ol0 (Keep.refl h0 [a1]) N1q Kc1 (allS ge_1 all0) (kaS (ow 0 rfl) all0)
  show Go _ _ _ _ _ (mkF _ _ _ [])
  refine G0 X1 K d1_4 rfl rfl ?_
  refine G33 X1 K (tw H 24 rfl) rfl ((s1 H).ext Ol1.2) d1_5 ?_
  intro T2 X2 e2
  refine G5 X2 K (w25 H) Via.refl e2 g1.2.2.1 g1.1 (Or.inl (tw H 26 rfl)) (w2 H) (ty := (.array (.object Q3))) (by decide) rfl rfl d1_8 ?_
  intro T3 h3 X3 e3 W3 F3
  obtain ⟨N3, Ol3, Kp3⟩ := ivW N1 Ol1 Kp1 X3 W3 ge_1 (ow 0 rfl)
  have O3 := Ω0.s1 H g1 W3
  refine G17 X3 K d1_11 (by decide) (by decide) ?_
  have Kp : Keep h0 T3.heap [a1] := by rw [e3]; exact Kp3
  exact ⟨rfl, N3, Kp, (by rw [e3]; exact O3)⟩
theorem rm7_4 (H : Hyp Z a0) (Ol0 : Old Z (ζ Z) h0) :
    Mt l Z M6 C41 1 (some .boolean) [] ⟨0, 0, 0, 0⟩ #[.int 97] h0 (fun v h L => (v = some (.int 1) ∧ Fr (ζ Z) L ∧ h = h0)) := by
  refine g_be (pf pn8) ef_1 fun T0 K X0 e0 => ?_
  refine G1 X0 K d7_0 rfl ?_
  refine G34 X0 K (v := 255) d7_1 (by decide) ?_
  refine G10 X0 K d7_4 (by decide) ?_
  refine G3 X0 K (v := 1) d7_7 (by decide) ?_
  refine G6 12 X0 K d7_8 (by decide) (by decide) ?_
  refine G31 X0 K (by simp) (z' := 1) (by decide) d7_12 (by decide) (by decide) ?_
  exact ⟨rfl, (Fr.nil _), e0⟩
theorem rm8_5 (H : Hyp Z a0) (Ol0 : Old Z (ζ Z) h0) :
    Mt l Z M7 C35 1 (some (.array .byte)) [] ⟨0, 1, 1, 0⟩ #[.int 97] h0 (fun v h L => (∃ (b1 : Addr) (kA1 : ClassId), v = some (.ref b1) ∧ Fr (ζ Z) L ∧ Keep h0 h [] ∧ h0.size ≤ b1 ∧ Arv Z h b1 kA1 .byte 1 [.int 97] (.int 0))) := by
  refine g_be (pf pn8) ef_1 fun T0 K X0 e0 => ?_
  refine G3 X0 K (v := 1) d8_0 (by decide) ?_
  refine G35 X0 K (cap := 1) (ty := .byte) (vs := [.int 0]) (w30 H) rfl e0 d8_1 (by decide) (by decide) rfl (by decide) (by decide) (by decide) ?_
  intro T1 h1 b1 kA1 X1 e1 E1 z1 A1
  obtain ⟨sz1, ge1, Ol1, Kp1⟩ := ivE Ol0 (Keep.refl h0 []) E1 z1
  have so1 := Sd.one b1
  refine G9 X1 K d8_3 rfl ?_
  refine G3 X1 K (v := 0) d8_4 (by decide) ?_
  refine G1 X1 K d8_5 rfl ?_
  refine G53 X1 K d8_6 (z := 97) (by decide) ?_
  refine G49 X1 K (z := 97) (vs' := [.int 97]) e1 A1 (by decide) (Nat.le_of_ble_eq_true rfl) (by decide) rfl d8_7 ?_
  intro T2 h2 X2 e2 W2 F2
  obtain ⟨N2, Ol2, Kp2⟩ := ivW (Fr.nil _) Ol1 Kp1 X2 W2 ge1 (Or.inr sz1)
  refine G13 X2 K rfl rfl rfl d8_8 (by decide) (by decide) ?_
  have Kp : Keep h0 T2.heap [] := by rw [e2]; exact Kp2
  exact ⟨b1, kA1, rfl, N2, Kp, sz1, (by rw [e2]; exact F2)⟩
theorem rm9_6 (H : Hyp Z a0) (a1 a2 : Addr) (Ol0 : Old Z (ζ Z) h0) (B_1 : Ω1 Z h0 a1 .null (.int 0) (.int 0) (.int 0)) (ge_1 : (ζ Z) ≤ a1) :
    Mt l Z M8 C43 3 none [] ⟨1, 0, 0, 12⟩ #[.ref a1, .ref a2, .int 0] h0 (fun v h L => (v = none ∧ Fr (ζ Z) L ∧ Keep h0 h [a1] ∧ Ω1 Z h a1 (.ref a2) (.int 0) (.int 0) (.int 0))) := by
  refine g_be (pf pn7) (ef_2 a1 a2) fun T0 K X0 e0 => ?_
  refine G0 X0 K d9_0 rfl rfl ?_
  refine G40 X0 K (W := 0) (tw H 55 rfl) (w20 H) (w21 H) e0 rfl d9_1 (by decide) (Nat.le_of_eq rfl) (by decide) ?_
  intro T1 X1 e1
  refine G0 X1 K d9_4 rfl rfl ?_
  refine G0 X1 K d9_5 rfl rfl ?_
  refine G5 X1 K (w56 H) Via.refl e1 B_1.2.1 B_1.1 (Or.inr ⟨(tw H 31 rfl), rfl, rfl⟩) (w29 H) (ty := (.array .byte)) (by decide) rfl rfl d9_6 ?_
  intro T2 h2 X2 e2 W2 F2
  obtain ⟨N2, Ol2, Kp2⟩ := ivW (Fr.nil _) Ol0 (Keep.refl h0 [a1]) X2 W2 ge_1 (ow 0 rfl)
  have O2 := Ω1.s0 H B_1 W2
  refine G0 X2 K d9_9 rfl rfl ?_
  refine G1 X2 K d9_10 rfl ?_
  refine G5 X2 K (tw H 57 rfl) Via.refl e2 O2.2.2.1 O2.1 (Or.inr ⟨(tw H 32 rfl), rfl, rfl⟩) (w29 H) (ty := .byte) (by decide) rfl rfl d9_11 ?_
  intro T3 h3 X3 e3 W3 F3
  obtain ⟨N3, Ol3, Kp3⟩ := ivW N2 Ol2 Kp2 X3 W3 ge_1 (ow 0 rfl)
  have O3 := Ω1.s1 H O2 W3
  refine G17 X3 K d9_14 (by decide) (by decide) ?_
  have Kp : Keep h0 T3.heap [a1] := by rw [e3]; exact Kp3
  exact ⟨rfl, N3, Kp, (by rw [e3]; exact O3)⟩
theorem rm6_7 (H : Hyp Z a0) (Ol0 : Old Z (ζ Z) h0) :
    Mt l Z M5 C20 1 (some (.object Q10)) [] ⟨2, 2, 5, 27⟩ #[.int 97] h0 (fun v h L => (∃ (b3 bx1 : Addr) (kB1 : ClassId), v = some (.ref b3) ∧ Fr (ζ Z) L ∧ Keep h0 h [] ∧ h0.size ≤ b3 ∧ b3 < bx1 ∧ Ω1 Z h b3 (.ref bx1) (.int 0) (.int 0) (.int 0) ∧ Arv Z h bx1 kB1 .byte 1 [.int 97] (.int 0))) := by
  refine g_be (pf pn7) ef_1 fun T0 K X0 e0 => ?_
  refine G33 X0 K (w42 H) e0 ((ivs0 H).ext Ol0.2) d6_0 ?_
  intro T1 X1 e1
  refine G11 X1 K d6_3 (feq (ivn0 H)).1 ?_
  refine G1 X1 K d6_6 rfl ?_
  refine G14 X1 K (W := 0) (w43 H) (w44 H) (w45 H) (w46 H) (by decide) (rm7_4 H Ol0) e1 rfl rfl rfl (lenOf pd_1 rfl) rfl d6_7 (by decide) ?_
  rintro T2 v2 L2 X2 ⟨rfl, N2q, e2⟩
  have N2 := Fr.app (Fr.nil _) N2q
  show Go _ _ _ _ _ (mkF _ _ _ [.int 1])
  refine G11 X2 K d6_10 (by decide) ?_
  refine G27 X2 K (w47 H) (w29 H) (w28 H) e2 d6_13 (by decide) (by decide) ?_
  intro T3 h3 b3 X3 e3 E3 z3 A3 D3
  obtain ⟨sz3, ge3, Ol3, Kp3⟩ := ivE Ol0 (Keep.refl h0 []) E3 z3
  have so1 := Sd.one b3
  have O3 := Ω1.new H A3 D3
  refine G9 X3 K d6_16 rfl ?_
  refine G1 X3 K d6_17 rfl ?_
  refine G14 X3 K (W := 2) (w48 H) (w49 H) (w45 H) (w50 H) (by decide) (rm8_5 H Ol3) e3 rfl rfl rfl (lenOf pd_2 rfl) rfl d6_18 (by decide) ?_
  rintro T4 v4 L4 X4 ⟨bx1, kB1, rfl, N4q, Kc4, lz4_0, g1⟩
  have szbx1 := Nat.le_trans Kp3.1 lz4_0
  have gebx1 := Nat.le_trans Ol3.2.1 lz4_0
  have lkbx1 : b3 < bx1 := Nat.lt_of_lt_of_le O3.lt lz4_0
  have so2 := so1.cons lkbx1
  obtain ⟨N4, Ol4, Kp4⟩ := ivK N2 Ol3 Kp3 N4q Kc4 all0 all0
  show Go _ _ _ _ _ (mkF _ _ _ [.ref bx1, .ref b3, .ref b3])
  refine G3 X4 K (v := 0) d6_21 (by decide) ?_
  have f1 := (O3.keep Kc4 nin0)
  refine G23 X4 K (W := 1) rfl (w51 H) (w52 H) (w28 H) (w54 H) (by decide) (rm9_6 H b3 bx1 Ol4 f1 ge3) rfl rfl rfl rfl (lenOf pd_3 rfl) rfl d6_22 (by decide) ?_
  rintro T5 v5 L5 X5 ⟨rfl, N5q, Kc5, g2⟩
  obtain ⟨N5, Ol5, Kp5⟩ := ivK N4 Ol4 Kp4 N5q Kc5 (allS ge3 all0) (kaS (Or.inr sz3) all0)
  show Go _ _ _ _ _ (mkF _ _ _ [.ref b3])
  refine G13 X5 K rfl rfl rfl d6_25 (by decide) (by decide) ?_
  have f2 := (g1.keep Kc5 (so2.nin 0 [1] rfl rfl rfl))
  exact ⟨b3, bx1, kB1, rfl, N5, Kp5, sz3, lkbx1, g2, f2⟩
theorem rm14_8 (H : Hyp Z a0) (Ol0 : Old Z (ζ Z) h0) :
    Mt l Z M13 C50 2 (some .int) [] ⟨0, 0, 0, 0⟩ #[.int 10, .int 1] h0 (fun v h L => (v = some (.int 10) ∧ Fr (ζ Z) L ∧ h = h0)) := by
  refine g_be (Jvm.Free.JP.mathPlain rfl (by decide +kernel)) ef_3 fun T0 K X0 e0 => ?_
  refine G1 X0 K d14_0 rfl ?_
  refine G1 X0 K d14_1 rfl ?_
  refine G10 X0 K d14_2 (by decide) ?_
  refine G1 X0 K d14_5 rfl ?_
  refine G6 10 X0 K d14_6 (by decide) (by decide) ?_
  refine G18 X0 K d14_10 (by decide) (by decide) ?_
  exact ⟨rfl, (Fr.nil _), e0⟩
theorem rm13_9 (H : Hyp Z a0) (a1 : Addr) (Ol0 : Old Z (ζ Z) h0) (B_1 : Ω0 Z h0 a1 (.int 1) (.ref (ad1 Z a0)) (.int 0)) (ge_1 : (ζ Z) ≤ a1) :
    Mt l Z M12 C21 4 (some (.array (.object Q3))) [] ⟨1, 1, 10, 14⟩ #[.ref a1, .int 1] h0 (fun v h L => (∃ (b5 : Addr) (kA5 : ClassId), v = some (.ref b5) ∧ Fr (ζ Z) L ∧ Keep h0 h [a1] ∧ h0.size ≤ b5 ∧ Ω0 Z h a1 (.int 1) (.ref b5) (.int 0) ∧ Arv Z h b5 kA5 (.object Q3) 10 [.null, .null, .null, .null, .null, .null, .null, .null, .null, .null] .null ∧ Exa Z h b5 Q7 ∧ Ovr Z kA5 Q3)) := by
  refine g_be (pf pn12) (ef_4 a1) fun T0 K X0 e0 => ?_
  refine G0 X0 K d13_0 rfl rfl ?_
  refine G2 X0 K (w25 H) Via.refl e0 B_1.2.2.1 d13_1 ?_
  intro T1 X1 e1
  refine G21 X1 K e1 ((v1 H).ext Ol0.2) d13_4 ?_
  refine G24 X1 K (L' := #[vr a1, vi 1, vi 0, un]) d13_5 rfl ?_
  refine G1 X1 K d13_6 rfl ?_
  refine G11 X1 K d13_7 (by decide) ?_
  refine G0 X1 K d13_10 rfl rfl ?_
  refine G2 X1 K (w25 H) Via.refl e1 B_1.2.2.1 d13_11 ?_
  intro T2 X2 e2
  refine G33 X2 K (tw H 24 rfl) e2 ((s1 H).ext Ol0.2) d13_14 ?_
  intro T3 X3 e3
  refine G64 45 X3 K (same := true) d13_17 rfl rfl (decide_eq_true rfl) (by decide) (by decide) ?_
  refine G0 X3 K d13_45 rfl rfl ?_
  refine G29 X3 K (v := 10) d13_46 (by decide) ?_
  refine G1 X3 K d13_48 rfl ?_
  refine G14 X3 K (W := 1) (tw H 82 rfl) (tw H 83 rfl) (w84 H) (tw H 85 rfl) (by decide) (rm14_8 H Ol0) e3 rfl rfl rfl (lenOf pd_5 rfl) rfl d13_49 (by decide) ?_
  rintro T4 v4 L4 X4 ⟨rfl, N4q, e4⟩
  have N4 := Fr.app (Fr.nil _) N4q
  show Go _ _ _ _ _ (mkF _ _ _ [.int 10, .ref a1])
  refine G54 X4 K (cap := 10) (vs := [.null, .null, .null, .null, .null, .null, .null, .null, .null, .null]) (ad := Q7) (by decide) (tw H 86 rfl) (tw H 87 rfl) e4 d13_52 (by decide) (by decide) rfl (by decide) (by decide) (by decide) ?_
  intro T5 h5 b5 kA5 X5 e5 E5 z5 A5 O5 B5
  obtain ⟨sz5, ge5, Ol5, Kp5⟩ := ivE Ol0 (Keep.refl h0 [a1]) E5 z5
  have so1 := Sd.one b5
  refine G46 X5 K d13_55 rfl rfl ?_
  have f1 := (B_1.ext E5)
  refine G5 X5 K (w25 H) Via.refl e5 f1.2.2.1 f1.1 (Or.inl (tw H 26 rfl)) (w2 H) (ty := (.array (.object Q3))) (by decide) rfl rfl d13_56 ?_
  intro T6 h6 X6 e6 W6 F6
  obtain ⟨N6, Ol6, Kp6⟩ := ivW N4 Ol5 Kp5 X6 W6 ge_1 (ow 0 rfl)
  have O6 := Ω0.s1 H f1 W6
  refine G13 X6 K rfl rfl rfl d13_59 (by decide) (by decide) ?_
  have Kp : Keep h0 T6.heap [a1] := by rw [e6]; exact Kp6
  have ne1 : a1 ≠ b5 := (Nat.ne_of_lt (Nat.lt_of_lt_of_le B_1.lt sz5))
  have f2 := (A5.other W6 (Ne.symm ne1))
  have f3 := (B5.wr W6)
  exact ⟨b5, kA5, rfl, N6, Kp, sz5, (by rw [e6]; exact O6), (by rw [e6]; exact f2), (by rw [e6]; exact f3), O5⟩
theorem rm12_10 (H : Hyp Z a0) (a1 : Addr) (Ol0 : Old Z (ζ Z) h0) (B_1 : Ω0 Z h0 a1 (.int 1) (.ref (ad1 Z a0)) (.int 0)) (ge_1 : (ζ Z) ≤ a1) :
    Mt l Z M11 C57 1 (some (.array (.object Q3))) [] ⟨2, 1, 10, 29⟩ #[.ref a1] h0 (fun v h L => (∃ (bx1 : Addr) (kB1 : ClassId), v = some (.ref bx1) ∧ Fr (ζ Z) L ∧ Keep h0 h [a1] ∧ h0.size ≤ bx1 ∧ Ω0 Z h a1 (.int 1) (.ref bx1) (.int 0) ∧ Arv Z h bx1 kB1 (.object Q3) 10 [.null, .null, .null, .null, .null, .null, .null, .null, .null, .null] .null ∧ Exa Z h bx1 Q7 ∧ Ovr Z kB1 Q3)) := by
  refine g_be (pf pn12) (ef_0 a1) fun T0 K X0 e0 => ?_
  refine G0 X0 K d12_0 rfl rfl ?_
  refine G0 X0 K d12_1 rfl rfl ?_
  refine G2 X0 K (w65 H) Via.refl e0 B_1.2.2.2 d12_2 ?_
  intro T1 X1 e1
  refine G3 X1 K (v := 1) d12_5 (by decide) ?_
  refine G16 X1 K d12_6 (z := 1) (by decide) ?_
  refine G25 X1 K (W := 0) (tw H 77 rfl) (tw H 79 rfl) (tw H 80 rfl) (tw H 78 rfl) (w3 H) (tw H 81 rfl) (by decide) (rm13_9 H a1 Ol0 B_1 ge_1) e1 B_1.1 rfl rfl rfl (lenOf pd_6 rfl) rfl d12_7 (by decide) ?_
  rintro T2 v2 L2 X2 ⟨bx1, kB1, rfl, N2q, Kc2, lz2_0, g1, g2, g3, g4⟩
  have szbx1 := Nat.le_trans (Keep.refl h0 [a1]).1 lz2_0
  have gebx1 := Nat.le_trans Ol0.2.1 lz2_0
  have so1 := Sd.one bx1
  obtain ⟨N2, Ol2, Kp2⟩ := ivK (Fr.nil _) Ol0 (Keep.refl h0 [a1]) N2q Kc2 (allS ge_1 all0) (kaS (ow 0 rfl) all0)
  show Go _ _ _ _ _ (mkF _ _ _ [.ref bx1])
  refine G13 X2 K rfl rfl rfl d12_10 (by decide) (by decide) ?_
  exact ⟨bx1, kB1, rfl, N2, Kp2, szbx1, g1, g2, g3, g4⟩
theorem rm11_11 (H : Hyp Z a0) (a1 a2 a3 : Addr) (Ol0 : Old Z (ζ Z) h0) (B_1 : Ω0 Z h0 a1 (.int 1) (.ref (ad1 Z a0)) (.int 0)) (ge_1 : (ζ Z) ≤ a1) (B_2 : Ω1 Z h0 a2 (.ref a3) (.int 0) (.int 0) (.int 0)) (ne_1 : a2 ≠ a1) :
    Mt l Z M10 C15 4 none [] ⟨3, 1, 10, 41⟩ #[.ref a1, .ref a2, (.ref (ad1 Z a0)), .int 0] h0 (fun v h L => (∃ (bx1 : Addr) (kB1 : ClassId), v = none ∧ Fr (ζ Z) L ∧ Keep h0 h [a1] ∧ h0.size ≤ bx1 ∧ Ω0 Z h a1 (.int 1) (.ref bx1) (.int 1) ∧ Arv Z h bx1 kB1 (.object Q3) 10 [.ref a2, .null, .null, .null, .null, .null, .null, .null, .null, .null] .null ∧ Exa Z h bx1 Q7 ∧ Ovr Z kB1 Q3)) := by
  refine g_be (pf pn12) (ef_5 a1 a2 (ad1 Z a0)) fun T0 K X0 e0 => ?_
  have nw_a2 : a2 ∉ [a1] := (ninS ne_1 nin0)
  refine G1 X0 K d11_0 rfl ?_
  refine G0 X0 K d11_1 rfl rfl ?_
  refine G21 X0 K e0 ((v1 H).ext Ol0.2) d11_2 ?_
  refine G10 X0 K d11_3 (by decide) ?_
  refine G0 X0 K d11_6 rfl rfl ?_
  refine G25 X0 K (W := 0) (tw H 72 rfl) (tw H 74 rfl) (tw H 75 rfl) (tw H 73 rfl) (w3 H) (tw H 76 rfl) (by decide) (rm12_10 H a1 Ol0 B_1 ge_1) e0 B_1.1 rfl rfl rfl (lenOf pd_7 rfl) rfl d11_7 (by decide) ?_
  rintro T1 v1 L1 X1 ⟨bx1, kB1, rfl, N1q, Kc1, lz1_0, g1, g2, g3, g4⟩
  have szbx1 := Nat.le_trans (Keep.refl h0 [a1]).1 lz1_0
  have gebx1 := Nat.le_trans Ol0.2.1 lz1_0
  have so1 := Sd.one bx1
  obtain ⟨N1, Ol1, Kp1⟩ := ivK (Fr.nil _) Ol0 (Keep.refl h0 [a1]) N1q Kc1 (allS ge_1 all0) (kaS (ow 0 rfl) all0)
  show Go _ _ _ _ _ (mkF _ _ _ [.ref bx1])
  refine G38 X1 K (L' := #[vr a1, vr a2, vr bx1, vi 0]) d11_10 rfl rfl ?_
  refine G0 X1 K d11_11 rfl rfl ?_
  refine G1 X1 K d11_12 rfl ?_
  refine G0 X1 K d11_13 rfl rfl ?_
  have f1 := B_2.keep Kp1 nw_a2
  refine G32 X1 K (vs' := [.ref a2, .null, .null, .null, .null, .null, .null, .null, .null, .null]) rfl g2 (Or.inr ⟨_, rfl, g4, (Ins.of_exa f1.1 (w88 H))⟩) (by decide) (Nat.le_of_ble_eq_true rfl) rfl d11_14 ?_
  intro T2 h2 X2 e2 W2 F2
  obtain ⟨N2, Ol2, Kp2⟩ := ivW N1 Ol1 Kp1 X2 W2 gebx1 (Or.inr szbx1)
  refine G0 X2 K d11_15 rfl rfl ?_
  refine G1 X2 K d11_16 rfl ?_
  refine G3 X2 K (v := 1) d11_17 (by decide) ?_
  refine G16 X2 K d11_18 (z := 1) (by decide) ?_
  have ne1 : a1 ≠ bx1 := (Nat.ne_of_lt (Nat.lt_of_lt_of_le B_1.lt szbx1))
  have f2 := (g1.other W2 ne1)
  refine G5 X2 K (w65 H) Via.refl e2 f2.2.2.2 f2.1 (Or.inl (w66 H)) (w2 H) (ty := .int) (by decide) rfl rfl d11_19 ?_
  intro T3 h3 X3 e3 W3 F3
  obtain ⟨N3, Ol3, Kp3⟩ := ivW N2 Ol2 Kp2 X3 W3 ge_1 (ow 0 rfl)
  have O3 := Ω0.s2 H f2 W3
  refine G17 X3 K d11_22 (by decide) (by decide) ?_
  have Kp : Keep h0 T3.heap [a1] := by rw [e3]; exact Kp3
  have f3 := (F2.other W3 (Ne.symm ne1))
  have f4 := ((g3.wr W2).wr W3)
  exact ⟨bx1, kB1, rfl, N3, Kp, szbx1, (by rw [e3]; exact O3), (by rw [e3]; exact f3), (by rw [e3]; exact f4), g4⟩
theorem rm10_12 (H : Hyp Z a0) (a1 a2 a3 : Addr) (Ol0 : Old Z (ζ Z) h0) (B_1 : Ω0 Z h0 a1 (.int 0) (.ref (ad1 Z a0)) (.int 0)) (ge_1 : (ζ Z) ≤ a1) (B_2 : Ω1 Z h0 a2 (.ref a3) (.int 0) (.int 0) (.int 0)) (ne_1 : a2 ≠ a1) :
    Mt l Z M9 C16 2 (some .boolean) [] ⟨4, 1, 10, 56⟩ #[.ref a1, .ref a2] h0 (fun v h L => (∃ (bx1 : Addr) (kB1 : ClassId), v = some (.int 1) ∧ Fr (ζ Z) L ∧ Keep h0 h [a1] ∧ h0.size ≤ bx1 ∧ Ω0 Z h a1 (.int 1) (.ref bx1) (.int 1) ∧ Arv Z h bx1 kB1 (.object Q3) 10 [.ref a2, .null, .null, .null, .null, .null, .null, .null, .null, .null] .null ∧ Exa Z h bx1 Q7 ∧ Ovr Z kB1 Q3)) := by
  refine g_be (pf pn12) (ef_6 a1 a2) fun T0 K X0 e0 => ?_
  have nw_a2 : a2 ∉ [a1] := (ninS ne_1 nin0)
  refine G0 X0 K d10_0 rfl rfl ?_
  refine G9 X0 K d10_1 rfl ?_
  refine G2 X0 K (w63 H) (Via.of (w64 H)) e0 B_1.2.1 d10_2 ?_
  intro T1 X1 e1
  refine G3 X1 K (v := 1) d10_5 (by decide) ?_
  refine G16 X1 K d10_6 (z := 1) (by decide) ?_
  refine G5 X1 K (w63 H) (Via.of (w64 H)) e1 B_1.2.1 B_1.1 (Or.inl (w23 H)) (w2 H) (ty := .int) (by decide) rfl rfl d10_7 ?_
  intro T2 h2 X2 e2 W2 F2
  obtain ⟨N2, Ol2, Kp2⟩ := ivW (Fr.nil _) Ol0 (Keep.refl h0 [a1]) X2 W2 ge_1 (ow 0 rfl)
  have O2 := Ω0.s0 H B_1 W2
  refine G0 X2 K d10_10 rfl rfl ?_
  refine G0 X2 K d10_11 rfl rfl ?_
  refine G0 X2 K d10_12 rfl rfl ?_
  refine G2 X2 K (w25 H) Via.refl e2 O2.2.2.1 d10_13 ?_
  intro T3 X3 e3
  refine G0 X3 K d10_16 rfl rfl ?_
  refine G2 X3 K (w65 H) Via.refl e3 O2.2.2.2 d10_17 ?_
  intro T4 X4 e4
  have f1 := B_2.keep Kp2 nw_a2
  refine G25 X4 K (W := 0) (w67 H) (w69 H) (w70 H) (w68 H) (w3 H) (w71 H) (by decide) (rm11_11 H a1 a2 a3 Ol2 O2 ge_1 f1 ne_1) e4 O2.1 rfl rfl rfl (lenOf pd_8 rfl) rfl d10_20 (by decide) ?_
  rintro T5 v5 L5 X5 ⟨bx1, kB1, rfl, N5q, Kc5, lz5_0, g1, g2, g3, g4⟩
  have szbx1 := Nat.le_trans Kp2.1 lz5_0
  have gebx1 := Nat.le_trans Ol2.2.1 lz5_0
  have so1 := Sd.one bx1
  obtain ⟨N5, Ol5, Kp5⟩ := ivK N2 Ol2 Kp2 N5q Kc5 (allS ge_1 all0) (kaS (ow 0 rfl) all0)
  show Go _ _ _ _ _ (mkF _ _ _ [])
  refine G3 X5 K (v := 1) d10_23 (by decide) ?_
  refine G31 X5 K (by simp) (z' := 1) (by decide) d10_24 (by decide) (by decide) ?_
  exact ⟨bx1, kB1, rfl, N5, Kp5, szbx1, g1, g2, g3, g4⟩
theorem rm7_13 (H : Hyp Z a0) (Ol0 : Old Z (ζ Z) h0) :
    Mt l Z M6 C41 1 (some .boolean) [] ⟨0, 0, 0, 0⟩ #[.int 98] h0 (fun v h L => (v = some (.int 1) ∧ Fr (ζ Z) L ∧ h = h0)) := by
  refine g_be (pf pn8) ef_7 fun T0 K X0 e0 => ?_
  refine G1 X0 K d7_0 rfl ?_
  refine G34 X0 K (v := 255) d7_1 (by decide) ?_
  refine G10 X0 K d7_4 (by decide) ?_
  refine G3 X0 K (v := 1) d7_7 (by decide) ?_
  refine G6 12 X0 K d7_8 (by decide) (by decide) ?_
  refine G31 X0 K (by simp) (z' := 1) (by decide) d7_12 (by decide) (by decide) ?_
  exact ⟨rfl, (Fr.nil _), e0⟩
theorem rm8_14 (H : Hyp Z a0) (Ol0 : Old Z (ζ Z) h0) :
    Mt l Z M7 C35 1 (some (.array .byte)) [] ⟨0, 1, 1, 0⟩ #[.int 98] h0 (fun v h L => (∃ (b1 : Addr) (kA1 : ClassId), v = some (.ref b1) ∧ Fr (ζ Z) L ∧ Keep h0 h [] ∧ h0.size ≤ b1 ∧ Arv Z h b1 kA1 .byte 1 [.int 98] (.int 0))) := by
  refine g_be (pf pn8) ef_7 fun T0 K X0 e0 => ?_
  refine G3 X0 K (v := 1) d8_0 (by decide) ?_
  refine G35 X0 K (cap := 1) (ty := .byte) (vs := [.int 0]) (w30 H) rfl e0 d8_1 (by decide) (by decide) rfl (by decide) (by decide) (by decide) ?_
  intro T1 h1 b1 kA1 X1 e1 E1 z1 A1
  obtain ⟨sz1, ge1, Ol1, Kp1⟩ := ivE Ol0 (Keep.refl h0 []) E1 z1
  have so1 := Sd.one b1
  refine G9 X1 K d8_3 rfl ?_
  refine G3 X1 K (v := 0) d8_4 (by decide) ?_
  refine G1 X1 K d8_5 rfl ?_
  refine G53 X1 K d8_6 (z := 98) (by decide) ?_
  refine G49 X1 K (z := 98) (vs' := [.int 98]) e1 A1 (by decide) (Nat.le_of_ble_eq_true rfl) (by decide) rfl d8_7 ?_
  intro T2 h2 X2 e2 W2 F2
  obtain ⟨N2, Ol2, Kp2⟩ := ivW (Fr.nil _) Ol1 Kp1 X2 W2 ge1 (Or.inr sz1)
  refine G13 X2 K rfl rfl rfl d8_8 (by decide) (by decide) ?_
  have Kp : Keep h0 T2.heap [] := by rw [e2]; exact Kp2
  exact ⟨b1, kA1, rfl, N2, Kp, sz1, (by rw [e2]; exact F2)⟩
theorem rm6_15 (H : Hyp Z a0) (Ol0 : Old Z (ζ Z) h0) :
    Mt l Z M5 C20 1 (some (.object Q10)) [] ⟨2, 2, 5, 27⟩ #[.int 98] h0 (fun v h L => (∃ (b3 bx1 : Addr) (kB1 : ClassId), v = some (.ref b3) ∧ Fr (ζ Z) L ∧ Keep h0 h [] ∧ h0.size ≤ b3 ∧ b3 < bx1 ∧ Ω1 Z h b3 (.ref bx1) (.int 0) (.int 0) (.int 0) ∧ Arv Z h bx1 kB1 .byte 1 [.int 98] (.int 0))) := by
  refine g_be (pf pn7) ef_7 fun T0 K X0 e0 => ?_
  refine G33 X0 K (w42 H) e0 ((ivs0 H).ext Ol0.2) d6_0 ?_
  intro T1 X1 e1
  refine G11 X1 K d6_3 (feq (ivn0 H)).1 ?_
  refine G1 X1 K d6_6 rfl ?_
  refine G14 X1 K (W := 0) (w43 H) (w44 H) (w45 H) (w46 H) (by decide) (rm7_13 H Ol0) e1 rfl rfl rfl (lenOf pd_1 rfl) rfl d6_7 (by decide) ?_
  rintro T2 v2 L2 X2 ⟨rfl, N2q, e2⟩
  have N2 := Fr.app (Fr.nil _) N2q
  show Go _ _ _ _ _ (mkF _ _ _ [.int 1])
  refine G11 X2 K d6_10 (by decide) ?_
  refine G27 X2 K (w47 H) (w29 H) (w28 H) e2 d6_13 (by decide) (by decide) ?_
  intro T3 h3 b3 X3 e3 E3 z3 A3 D3
  obtain ⟨sz3, ge3, Ol3, Kp3⟩ := ivE Ol0 (Keep.refl h0 []) E3 z3
  have so1 := Sd.one b3
  have O3 := Ω1.new H A3 D3
  refine G9 X3 K d6_16 rfl ?_
  refine G1 X3 K d6_17 rfl ?_
  refine G14 X3 K (W := 2) (w48 H) (w49 H) (w45 H) (w50 H) (by decide) (rm8_14 H Ol3) e3 rfl rfl rfl (lenOf pd_2 rfl) rfl d6_18 (by decide) ?_
  rintro T4 v4 L4 X4 ⟨bx1, kB1, rfl, N4q, Kc4, lz4_0, g1⟩
  have szbx1 := Nat.le_trans Kp3.1 lz4_0
  have gebx1 := Nat.le_trans Ol3.2.1 lz4_0
  have lkbx1 : b3 < bx1 := Nat.lt_of_lt_of_le O3.lt lz4_0
  have so2 := so1.cons lkbx1
  obtain ⟨N4, Ol4, Kp4⟩ := ivK N2 Ol3 Kp3 N4q Kc4 all0 all0
  show Go _ _ _ _ _ (mkF _ _ _ [.ref bx1, .ref b3, .ref b3])
  refine G3 X4 K (v := 0) d6_21 (by decide) ?_
  have f1 := (O3.keep Kc4 nin0)
  refine G23 X4 K (W := 1) rfl (w51 H) (w52 H) (w28 H) (w54 H) (by decide) (rm9_6 H b3 bx1 Ol4 f1 ge3) rfl rfl rfl rfl (lenOf pd_3 rfl) rfl d6_22 (by decide) ?_
  rintro T5 v5 L5 X5 ⟨rfl, N5q, Kc5, g2⟩
  obtain ⟨N5, Ol5, Kp5⟩ := ivK N4 Ol4 Kp4 N5q Kc5 (allS ge3 all0) (kaS (Or.inr sz3) all0)
  show Go _ _ _ _ _ (mkF _ _ _ [.ref b3])
  refine G13 X5 K rfl rfl rfl d6_25 (by decide) (by decide) ?_
  have f2 := (g1.keep Kc5 (so2.nin 0 [1] rfl rfl rfl))
  exact ⟨b3, bx1, kB1, rfl, N5, Kp5, sz3, lkbx1, g2, f2⟩
theorem rm11_16 (H : Hyp Z a0) (a1 a2 a3 a4 : Addr) (k1 : ClassId) (a5 : Addr) (Ol0 : Old Z (ζ Z) h0) (A_1 : Arv Z h0 a3 k1 (.object Q3) 10 [.ref a4, .null, .null, .null, .null, .null, .null, .null, .null, .null] .null) (O_1 : Ovr Z k1 Q3) (B_1 : Ω1 Z h0 a2 (.ref a5) (.int 0) (.int 0) (.int 0)) (ge_1 : (ζ Z) ≤ a3) (B_2 : Ω0 Z h0 a1 (.int 2) (.ref a3) (.int 1)) (ne_1 : a1 ≠ a3) (ge_2 : (ζ Z) ≤ a1) (ne_2 : a3 ≠ a1) :
    Mt l Z M10 C15 4 none [] ⟨0, 0, 0, 0⟩ #[.ref a1, .ref a2, .ref a3, .int 1] h0 (fun v h L => (v = none ∧ Fr (ζ Z) L ∧ Keep h0 h [a3, a1] ∧ Arv Z h a3 k1 (.object Q3) 10 [.ref a4, .ref a2, .null, .null, .null, .null, .null, .null, .null, .null] .null ∧ Ω0 Z h a1 (.int 2) (.ref a3) (.int 2))) := by
  refine g_be (pf pn12) (ef_8 a1 a2 a3) fun T0 K X0 e0 => ?_
  refine G1 X0 K d11_0 rfl ?_
  refine G0 X0 K d11_1 rfl rfl ?_
  refine G21 X0 K e0 A_1 d11_2 ?_
  refine G19 11 X0 K d11_3 (by decide) (by decide) (by decide) ?_
  refine G0 X0 K d11_11 rfl rfl ?_
  refine G1 X0 K d11_12 rfl ?_
  refine G0 X0 K d11_13 rfl rfl ?_
  refine G32 X0 K (vs' := [.ref a4, .ref a2, .null, .null, .null, .null, .null, .null, .null, .null]) e0 A_1 (Or.inr ⟨_, rfl, O_1, (Ins.of_exa B_1.1 (w88 H))⟩) (by decide) (Nat.le_of_ble_eq_true rfl) rfl d11_14 ?_
  intro T1 h1 X1 e1 W1 F1
  obtain ⟨N1, Ol1, Kp1⟩ := ivW (Fr.nil _) Ol0 (Keep.refl h0 [a3, a1]) X1 W1 ge_1 (ow 0 rfl)
  refine G0 X1 K d11_15 rfl rfl ?_
  refine G1 X1 K d11_16 rfl ?_
  refine G3 X1 K (v := 1) d11_17 (by decide) ?_
  refine G16 X1 K d11_18 (z := 2) (by decide) ?_
  have f1 := (B_2.other W1 ne_1)
  refine G5 X1 K (w65 H) Via.refl e1 f1.2.2.2 f1.1 (Or.inl (w66 H)) (w2 H) (ty := .int) (by decide) rfl rfl d11_19 ?_
  intro T2 h2 X2 e2 W2 F2
  obtain ⟨N2, Ol2, Kp2⟩ := ivW N1 Ol1 Kp1 X2 W2 ge_2 (ow 1 rfl)
  have O2 := Ω0.s2 H f1 W2
  refine G17 X2 K d11_22 (by decide) (by decide) ?_
  have Kp : Keep h0 T2.heap [a3, a1] := by rw [e2]; exact Kp2
  have f2 := (F1.other W2 ne_2)
  exact ⟨rfl, N2, Kp, (by rw [e2]; exact f2), (by rw [e2]; exact O2)⟩
theorem rm10_17 (H : Hyp Z a0) (a1 a2 a3 a4 : Addr) (k1 : ClassId) (a5 : Addr) (Ol0 : Old Z (ζ Z) h0) (B_1 : Ω0 Z h0 a1 (.int 1) (.ref a3) (.int 1)) (ge_1 : (ζ Z) ≤ a1) (A_1 : Arv Z h0 a3 k1 (.object Q3) 10 [.ref a4, .null, .null, .null, .null, .null, .null, .null, .null, .null] .null) (B_2 : Ω1 Z h0 a2 (.ref a5) (.int 0) (.int 0) (.int 0)) (ne_1 : a3 ≠ a1) (O_1 : Ovr Z k1 Q3) (ge_2 : (ζ Z) ≤ a3) (ne_2 : a1 ≠ a3) (ne_3 : a2 ≠ a3) (ne_4 : a2 ≠ a1) :
    Mt l Z M9 C16 2 (some .boolean) [] ⟨1, 0, 0, 15⟩ #[.ref a1, .ref a2] h0 (fun v h L => (v = some (.int 1) ∧ Fr (ζ Z) L ∧ Keep h0 h [a1, a3] ∧ Ω0 Z h a1 (.int 2) (.ref a3) (.int 2) ∧ Arv Z h a3 k1 (.object Q3) 10 [.ref a4, .ref a2, .null, .null, .null, .null, .null, .null, .null, .null] .null)) := by
  refine g_be (pf pn12) (ef_6 a1 a2) fun T0 K X0 e0 => ?_
  have nw_a2 : a2 ∉ [a1, a3] := (ninS ne_4 (ninS ne_3 nin0))
  refine G0 X0 K d10_0 rfl rfl ?_
  refine G9 X0 K d10_1 rfl ?_
  refine G2 X0 K (w63 H) (Via.of (w64 H)) e0 B_1.2.1 d10_2 ?_
  intro T1 X1 e1
  refine G3 X1 K (v := 1) d10_5 (by decide) ?_
  refine G16 X1 K d10_6 (z := 2) (by decide) ?_
  refine G5 X1 K (w63 H) (Via.of (w64 H)) e1 B_1.2.1 B_1.1 (Or.inl (w23 H)) (w2 H) (ty := .int) (by decide) rfl rfl d10_7 ?_
  intro T2 h2 X2 e2 W2 F2
  obtain ⟨N2, Ol2, Kp2⟩ := ivW (Fr.nil _) Ol0 (Keep.refl h0 [a1, a3]) X2 W2 ge_1 (ow 0 rfl)
  have O2 := Ω0.s0 H B_1 W2
  refine G0 X2 K d10_10 rfl rfl ?_
  refine G0 X2 K d10_11 rfl rfl ?_
  refine G0 X2 K d10_12 rfl rfl ?_
  refine G2 X2 K (w25 H) Via.refl e2 O2.2.2.1 d10_13 ?_
  intro T3 X3 e3
  refine G0 X3 K d10_16 rfl rfl ?_
  refine G2 X3 K (w65 H) Via.refl e3 O2.2.2.2 d10_17 ?_
  intro T4 X4 e4
  have f1 := (A_1.other W2 ne_1)
  have f2 := B_2.keep Kp2 nw_a2
  refine G25 X4 K (W := 0) (w67 H) (w69 H) (w70 H) (w68 H) (w3 H) (w71 H) (by decide) (rm11_16 H a1 a2 a3 a4 k1 a5 Ol2 f1 O_1 f2 ge_2 O2 ne_2 ge_1 ne_1) e4 O2.1 rfl rfl rfl (lenOf pd_8 rfl) rfl d10_20 (by decide) ?_
  rintro T5 v5 L5 X5 ⟨rfl, N5q, Kc5, g1, g2⟩
  obtain ⟨N5, Ol5, Kp5⟩ := ivK N2 Ol2 Kp2 N5q Kc5 (allS ge_2 (allS ge_1 all0)) (kaS (ow 1 rfl) (kaS (ow 0 rfl) all0))
  show Go _ _ _ _ _ (mkF _ _ _ [])
  refine G3 X5 K (v := 1) d10_23 (by decide) ?_
  refine G31 X5 K (by simp) (z' := 1) (by decide) d10_24 (by decide) (by decide) ?_
  exact ⟨rfl, N5, Kp5, g2, g1⟩
theorem rm7_18 (H : Hyp Z a0) (Ol0 : Old Z (ζ Z) h0) :
    Mt l Z M6 C41 1 (some .boolean) [] ⟨0, 0, 0, 0⟩ #[.int 99] h0 (fun v h L => (v = some (.int 1) ∧ Fr (ζ Z) L ∧ h = h0)) := by
  refine g_be (pf pn8) ef_9 fun T0 K X0 e0 => ?_
  refine G1 X0 K d7_0 rfl ?_
  refine G34 X0 K (v := 255) d7_1 (by decide) ?_
  refine G10 X0 K d7_4 (by decide) ?_
  refine G3 X0 K (v := 1) d7_7 (by decide) ?_
  refine G6 12 X0 K d7_8 (by decide) (by decide) ?_
  refine G31 X0 K (by simp) (z' := 1) (by decide) d7_12 (by decide) (by decide) ?_
  exact ⟨rfl, (Fr.nil _), e0⟩
theorem rm8_19 (H : Hyp Z a0) (Ol0 : Old Z (ζ Z) h0) :
    Mt l Z M7 C35 1 (some (.array .byte)) [] ⟨0, 1, 1, 0⟩ #[.int 99] h0 (fun v h L => (∃ (b1 : Addr) (kA1 : ClassId), v = some (.ref b1) ∧ Fr (ζ Z) L ∧ Keep h0 h [] ∧ h0.size ≤ b1 ∧ Arv Z h b1 kA1 .byte 1 [.int 99] (.int 0))) := by
  refine g_be (pf pn8) ef_9 fun T0 K X0 e0 => ?_
  refine G3 X0 K (v := 1) d8_0 (by decide) ?_
  refine G35 X0 K (cap := 1) (ty := .byte) (vs := [.int 0]) (w30 H) rfl e0 d8_1 (by decide) (by decide) rfl (by decide) (by decide) (by decide) ?_
  intro T1 h1 b1 kA1 X1 e1 E1 z1 A1
  obtain ⟨sz1, ge1, Ol1, Kp1⟩ := ivE Ol0 (Keep.refl h0 []) E1 z1
  have so1 := Sd.one b1
  refine G9 X1 K d8_3 rfl ?_
  refine G3 X1 K (v := 0) d8_4 (by decide) ?_
  refine G1 X1 K d8_5 rfl ?_
  refine G53 X1 K d8_6 (z := 99) (by decide) ?_
  refine G49 X1 K (z := 99) (vs' := [.int 99]) e1 A1 (by decide) (Nat.le_of_ble_eq_true rfl) (by decide) rfl d8_7 ?_
  intro T2 h2 X2 e2 W2 F2
  obtain ⟨N2, Ol2, Kp2⟩ := ivW (Fr.nil _) Ol1 Kp1 X2 W2 ge1 (Or.inr sz1)
  refine G13 X2 K rfl rfl rfl d8_8 (by decide) (by decide) ?_
  have Kp : Keep h0 T2.heap [] := by rw [e2]; exact Kp2
  exact ⟨b1, kA1, rfl, N2, Kp, sz1, (by rw [e2]; exact F2)⟩
theorem rm6_20 (H : Hyp Z a0) (Ol0 : Old Z (ζ Z) h0) :
    Mt l Z M5 C20 1 (some (.object Q10)) [] ⟨2, 2, 5, 27⟩ #[.int 99] h0 (fun v h L => (∃ (b3 bx1 : Addr) (kB1 : ClassId), v = some (.ref b3) ∧ Fr (ζ Z) L ∧ Keep h0 h [] ∧ h0.size ≤ b3 ∧ b3 < bx1 ∧ Ω1 Z h b3 (.ref bx1) (.int 0) (.int 0) (.int 0) ∧ Arv Z h bx1 kB1 .byte 1 [.int 99] (.int 0))) := by
  refine g_be (pf pn7) ef_9 fun T0 K X0 e0 => ?_
  refine G33 X0 K (w42 H) e0 ((ivs0 H).ext Ol0.2) d6_0 ?_
  intro T1 X1 e1
  refine G11 X1 K d6_3 (feq (ivn0 H)).1 ?_
  refine G1 X1 K d6_6 rfl ?_
  refine G14 X1 K (W := 0) (w43 H) (w44 H) (w45 H) (w46 H) (by decide) (rm7_18 H Ol0) e1 rfl rfl rfl (lenOf pd_1 rfl) rfl d6_7 (by decide) ?_
  rintro T2 v2 L2 X2 ⟨rfl, N2q, e2⟩
  have N2 := Fr.app (Fr.nil _) N2q
  show Go _ _ _ _ _ (mkF _ _ _ [.int 1])
  refine G11 X2 K d6_10 (by decide) ?_
  refine G27 X2 K (w47 H) (w29 H) (w28 H) e2 d6_13 (by decide) (by decide) ?_
  intro T3 h3 b3 X3 e3 E3 z3 A3 D3
  obtain ⟨sz3, ge3, Ol3, Kp3⟩ := ivE Ol0 (Keep.refl h0 []) E3 z3
  have so1 := Sd.one b3
  have O3 := Ω1.new H A3 D3
  refine G9 X3 K d6_16 rfl ?_
  refine G1 X3 K d6_17 rfl ?_
  refine G14 X3 K (W := 2) (w48 H) (w49 H) (w45 H) (w50 H) (by decide) (rm8_19 H Ol3) e3 rfl rfl rfl (lenOf pd_2 rfl) rfl d6_18 (by decide) ?_
  rintro T4 v4 L4 X4 ⟨bx1, kB1, rfl, N4q, Kc4, lz4_0, g1⟩
  have szbx1 := Nat.le_trans Kp3.1 lz4_0
  have gebx1 := Nat.le_trans Ol3.2.1 lz4_0
  have lkbx1 : b3 < bx1 := Nat.lt_of_lt_of_le O3.lt lz4_0
  have so2 := so1.cons lkbx1
  obtain ⟨N4, Ol4, Kp4⟩ := ivK N2 Ol3 Kp3 N4q Kc4 all0 all0
  show Go _ _ _ _ _ (mkF _ _ _ [.ref bx1, .ref b3, .ref b3])
  refine G3 X4 K (v := 0) d6_21 (by decide) ?_
  have f1 := (O3.keep Kc4 nin0)
  refine G23 X4 K (W := 1) rfl (w51 H) (w52 H) (w28 H) (w54 H) (by decide) (rm9_6 H b3 bx1 Ol4 f1 ge3) rfl rfl rfl rfl (lenOf pd_3 rfl) rfl d6_22 (by decide) ?_
  rintro T5 v5 L5 X5 ⟨rfl, N5q, Kc5, g2⟩
  obtain ⟨N5, Ol5, Kp5⟩ := ivK N4 Ol4 Kp4 N5q Kc5 (allS ge3 all0) (kaS (Or.inr sz3) all0)
  show Go _ _ _ _ _ (mkF _ _ _ [.ref b3])
  refine G13 X5 K rfl rfl rfl d6_25 (by decide) (by decide) ?_
  have f2 := (g1.keep Kc5 (so2.nin 0 [1] rfl rfl rfl))
  exact ⟨b3, bx1, kB1, rfl, N5, Kp5, sz3, lkbx1, g2, f2⟩
theorem rm11_21 (H : Hyp Z a0) (a1 a2 a3 a4 a5 : Addr) (k1 : ClassId) (a6 : Addr) (Ol0 : Old Z (ζ Z) h0) (A_1 : Arv Z h0 a3 k1 (.object Q3) 10 [.ref a4, .ref a5, .null, .null, .null, .null, .null, .null, .null, .null] .null) (O_1 : Ovr Z k1 Q3) (B_1 : Ω1 Z h0 a2 (.ref a6) (.int 0) (.int 0) (.int 0)) (ge_1 : (ζ Z) ≤ a3) (B_2 : Ω0 Z h0 a1 (.int 3) (.ref a3) (.int 2)) (ne_1 : a1 ≠ a3) (ge_2 : (ζ Z) ≤ a1) (ne_2 : a3 ≠ a1) :
    Mt l Z M10 C15 4 none [] ⟨0, 0, 0, 0⟩ #[.ref a1, .ref a2, .ref a3, .int 2] h0 (fun v h L => (v = none ∧ Fr (ζ Z) L ∧ Keep h0 h [a3, a1] ∧ Arv Z h a3 k1 (.object Q3) 10 [.ref a4, .ref a5, .ref a2, .null, .null, .null, .null, .null, .null, .null] .null ∧ Ω0 Z h a1 (.int 3) (.ref a3) (.int 3))) := by
  refine g_be (pf pn12) (ef_10 a1 a2 a3) fun T0 K X0 e0 => ?_
  refine G1 X0 K d11_0 rfl ?_
  refine G0 X0 K d11_1 rfl rfl ?_
  refine G21 X0 K e0 A_1 d11_2 ?_
  refine G19 11 X0 K d11_3 (by decide) (by decide) (by decide) ?_
  refine G0 X0 K d11_11 rfl rfl ?_
  refine G1 X0 K d11_12 rfl ?_
  refine G0 X0 K d11_13 rfl rfl ?_
  refine G32 X0 K (vs' := [.ref a4, .ref a5, .ref a2, .null, .null, .null, .null, .null, .null, .null]) e0 A_1 (Or.inr ⟨_, rfl, O_1, (Ins.of_exa B_1.1 (w88 H))⟩) (by decide) (Nat.le_of_ble_eq_true rfl) rfl d11_14 ?_
  intro T1 h1 X1 e1 W1 F1
  obtain ⟨N1, Ol1, Kp1⟩ := ivW (Fr.nil _) Ol0 (Keep.refl h0 [a3, a1]) X1 W1 ge_1 (ow 0 rfl)
  refine G0 X1 K d11_15 rfl rfl ?_
  refine G1 X1 K d11_16 rfl ?_
  refine G3 X1 K (v := 1) d11_17 (by decide) ?_
  refine G16 X1 K d11_18 (z := 3) (by decide) ?_
  have f1 := (B_2.other W1 ne_1)
  refine G5 X1 K (w65 H) Via.refl e1 f1.2.2.2 f1.1 (Or.inl (w66 H)) (w2 H) (ty := .int) (by decide) rfl rfl d11_19 ?_
  intro T2 h2 X2 e2 W2 F2
  obtain ⟨N2, Ol2, Kp2⟩ := ivW N1 Ol1 Kp1 X2 W2 ge_2 (ow 1 rfl)
  have O2 := Ω0.s2 H f1 W2
  refine G17 X2 K d11_22 (by decide) (by decide) ?_
  have Kp : Keep h0 T2.heap [a3, a1] := by rw [e2]; exact Kp2
  have f2 := (F1.other W2 ne_2)
  exact ⟨rfl, N2, Kp, (by rw [e2]; exact f2), (by rw [e2]; exact O2)⟩
theorem rm10_22 (H : Hyp Z a0) (a1 a2 a3 a4 a5 : Addr) (k1 : ClassId) (a6 : Addr) (Ol0 : Old Z (ζ Z) h0) (B_1 : Ω0 Z h0 a1 (.int 2) (.ref a3) (.int 2)) (ge_1 : (ζ Z) ≤ a1) (A_1 : Arv Z h0 a3 k1 (.object Q3) 10 [.ref a4, .ref a5, .null, .null, .null, .null, .null, .null, .null, .null] .null) (B_2 : Ω1 Z h0 a2 (.ref a6) (.int 0) (.int 0) (.int 0)) (ne_1 : a3 ≠ a1) (O_1 : Ovr Z k1 Q3) (ge_2 : (ζ Z) ≤ a3) (ne_2 : a1 ≠ a3) (ne_3 : a2 ≠ a3) (ne_4 : a2 ≠ a1) :
    Mt l Z M9 C16 2 (some .boolean) [] ⟨1, 0, 0, 15⟩ #[.ref a1, .ref a2] h0 (fun v h L => (v = some (.int 1) ∧ Fr (ζ Z) L ∧ Keep h0 h [a1, a3] ∧ Ω0 Z h a1 (.int 3) (.ref a3) (.int 3) ∧ Arv Z h a3 k1 (.object Q3) 10 [.ref a4, .ref a5, .ref a2, .null, .null, .null, .null, .null, .null, .null] .null)) := by
  refine g_be (pf pn12) (ef_6 a1 a2) fun T0 K X0 e0 => ?_
  have nw_a2 : a2 ∉ [a1, a3] := (ninS ne_4 (ninS ne_3 nin0))
  refine G0 X0 K d10_0 rfl rfl ?_
  refine G9 X0 K d10_1 rfl ?_
  refine G2 X0 K (w63 H) (Via.of (w64 H)) e0 B_1.2.1 d10_2 ?_
  intro T1 X1 e1
  refine G3 X1 K (v := 1) d10_5 (by decide) ?_
  refine G16 X1 K d10_6 (z := 3) (by decide) ?_
  refine G5 X1 K (w63 H) (Via.of (w64 H)) e1 B_1.2.1 B_1.1 (Or.inl (w23 H)) (w2 H) (ty := .int) (by decide) rfl rfl d10_7 ?_
  intro T2 h2 X2 e2 W2 F2
  obtain ⟨N2, Ol2, Kp2⟩ := ivW (Fr.nil _) Ol0 (Keep.refl h0 [a1, a3]) X2 W2 ge_1 (ow 0 rfl)
  have O2 := Ω0.s0 H B_1 W2
  refine G0 X2 K d10_10 rfl rfl ?_
  refine G0 X2 K d10_11 rfl rfl ?_
  refine G0 X2 K d10_12 rfl rfl ?_
  refine G2 X2 K (w25 H) Via.refl e2 O2.2.2.1 d10_13 ?_
  intro T3 X3 e3
  refine G0 X3 K d10_16 rfl rfl ?_
  refine G2 X3 K (w65 H) Via.refl e3 O2.2.2.2 d10_17 ?_
  intro T4 X4 e4
  have f1 := (A_1.other W2 ne_1)
  have f2 := B_2.keep Kp2 nw_a2
  refine G25 X4 K (W := 0) (w67 H) (w69 H) (w70 H) (w68 H) (w3 H) (w71 H) (by decide) (rm11_21 H a1 a2 a3 a4 a5 k1 a6 Ol2 f1 O_1 f2 ge_2 O2 ne_2 ge_1 ne_1) e4 O2.1 rfl rfl rfl (lenOf pd_8 rfl) rfl d10_20 (by decide) ?_
  rintro T5 v5 L5 X5 ⟨rfl, N5q, Kc5, g1, g2⟩
  obtain ⟨N5, Ol5, Kp5⟩ := ivK N2 Ol2 Kp2 N5q Kc5 (allS ge_2 (allS ge_1 all0)) (kaS (ow 1 rfl) (kaS (ow 0 rfl) all0))
  show Go _ _ _ _ _ (mkF _ _ _ [])
  refine G3 X5 K (v := 1) d10_23 (by decide) ?_
  refine G31 X5 K (by simp) (z' := 1) (by decide) d10_24 (by decide) (by decide) ?_
  exact ⟨rfl, N5, Kp5, g2, g1⟩
theorem rm16_23 (H : Hyp Z a0) (a1 : Addr) (Ol0 : Old Z (ζ Z) h0) :
    Mt l Z M15 C79 1 none [] ⟨1, 0, 0, 12⟩ #[.ref a1] h0 (fun v h L => (v = none ∧ Fr (ζ Z) L ∧ h = h0)) := by
  refine g_be (pf pn6) (ef_0 a1) fun T0 K X0 e0 => ?_
  refine G0 X0 K d16_0 rfl rfl ?_
  refine G40 X0 K (W := 0) (tw H 100 rfl) (w20 H) (w21 H) e0 rfl d16_1 (by decide) (Nat.le_of_eq rfl) (by decide) ?_
  intro T1 X1 e1
  refine G17 X1 K d16_4 (by decide) (by decide) ?_
  exact ⟨rfl, (Fr.nil _), e1⟩
theorem rm19_24 (H : Hyp Z a0) (a1 a2 : Addr) (Ol0 : Old Z (ζ Z) h0) (B_1 : Ω0 Z h0 a1 (.int 3) (.ref a2) (.int 3)) :
    Mt l Z M19 C63 1 (some .boolean) [] ⟨0, 0, 0, 0⟩ #[.ref a1] h0 (fun v h L => (v = some (.int 0) ∧ Fr (ζ Z) L ∧ h = h0)) := by
  refine g_be (pf pn12) (ef_0 a1) fun T0 K X0 e0 => ?_
  refine G0 X0 K d19_0 rfl rfl ?_
  refine G2 X0 K (w65 H) Via.refl e0 B_1.2.2.2 d19_1 ?_
  intro T1 X1 e1
  refine G15 11 X1 K d19_4 (by decide) (by decide) (by decide) ?_
  refine G3 X1 K (v := 0) d19_11 (by decide) ?_
  refine G31 X1 K (by simp) (z' := 0) (by decide) d19_12 (by decide) (by decide) ?_
  exact ⟨rfl, (Fr.nil _), e1⟩
theorem rm23_25 (H : Hyp Z a0) (Ol0 : Old Z (ζ Z) h0) :
    Mt l Z M25 C45 2 (some .int) [] ⟨0, 0, 0, 0⟩ #[.int 10, .int 3] h0 (fun v h L => (v = some (.int 3) ∧ Fr (ζ Z) L ∧ h = h0)) := by
  refine g_be (Jvm.Free.JP.mathPlain rfl (by decide +kernel)) ef_11 fun T0 K X0 e0 => ?_
  refine G1 X0 K d23_0 rfl ?_
  refine G1 X0 K d23_1 rfl ?_
  refine G19 9 X0 K d23_2 (by decide) (by decide) (by decide) ?_
  refine G1 X0 K d23_9 rfl ?_
  refine G18 X0 K d23_10 (by decide) (by decide) ?_
  exact ⟨rfl, (Fr.nil _), e0⟩
theorem rm22_26 (H : Hyp Z a0) (a1 a2 a3 a4 : Addr) (k1 : ClassId) (a5 a6 a7 : Addr) (Ol0 : Old Z (ζ Z) h0) (A_1 : Arv Z h0 a1 k1 (.object Q3) 10 [.ref a2, .ref a3, .ref a4, .null, .null, .null, .null, .null, .null, .null] .null) (B_1 : Ω1 Z h0 a4 (.ref a5) (.int 0) (.int 0) (.int 0)) (B_2 : Ω1 Z h0 a3 (.ref a6) (.int 0) (.int 0) (.int 0)) (B_3 : Ω1 Z h0 a2 (.ref a7) (.int 0) (.int 0) (.int 0)) :
    Mt l Z M24 C17 4 (some (.array (.object Q3))) [] ⟨1, 1, 3, 20⟩ #[.ref a1, .int 3, (.ref (mrOf Z Q7))] h0 (fun v h L => (∃ (b2 : Addr) (kA2 : ClassId), v = some (.ref b2) ∧ Fr (ζ Z) L ∧ Keep h0 h [] ∧ h0.size ≤ b2 ∧ Arv Z h b2 kA2 (.object Q3) 3 [.ref a2, .ref a3, .ref a4] .null ∧ Exa Z h b2 Q7 ∧ Ovr Z kA2 Q3)) := by
  refine g_be (pf pn14) (ef_12 a1 (mrOf Z Q7)) fun T0 K X0 e0 => ?_
  have nw_a1 : a1 ∉ [] := nin0
  have nw_a2 : a2 ∉ [] := nin0
  have nw_a3 : a3 ∉ [] := nin0
  have nw_a4 : a4 ∉ [] := nin0
  refine G0 X0 K d22_0 rfl rfl ?_
  refine G71 X0 K (tw H 145 rfl) (mirM H) e0 d22_1 ?_
  intro T1 X1 e1
  refine G64 6 X1 K (same := true) d22_3 rfl rfl (decide_eq_true rfl) (by decide) (by decide) ?_
  refine G1 X1 K d22_6 rfl ?_
  refine G54 X1 K (cap := 3) (vs := [.null, .null, .null]) (ad := Q7) (by decide) (tw H 146 rfl) (tw H 87 rfl) e1 d22_7 (by decide) (by decide) rfl (by decide) (by decide) (by decide) ?_
  intro T2 h2 b2 kA2 X2 e2 E2 z2 A2 O2 B2
  obtain ⟨sz2, ge2, Ol2, Kp2⟩ := ivE Ol0 (Keep.refl h0 []) E2 z2
  have so1 := Sd.one b2
  refine G6 24 X2 K d22_10 (by decide) (by decide) ?_
  refine G38 X2 K (L' := #[vr a1, vi 3, vr (mrOf Z Q7), vr b2]) d22_24 rfl rfl ?_
  refine G0 X2 K d22_25 rfl rfl ?_
  refine G3 X2 K (v := 0) d22_26 (by decide) ?_
  refine G0 X2 K d22_27 rfl rfl ?_
  refine G3 X2 K (v := 0) d22_28 (by decide) ?_
  refine G0 X2 K d22_29 rfl rfl ?_
  have f1 := A_1.keep Kp2 nw_a1
  refine G21 X2 K e2 f1 d22_30 ?_
  refine G1 X2 K d22_31 rfl ?_
  refine G14 X2 K (W := 4) (tw H 147 rfl) (tw H 148 rfl) (w84 H) (tw H 149 rfl) (by decide) (rm23_25 H Ol2) e2 rfl rfl rfl (lenOf pd_5 rfl) rfl d22_32 (by decide) ?_
  rintro T3 v3 L3 X3 ⟨rfl, N3q, e3⟩
  have N3 := Fr.app (Fr.nil _) N3q
  show Go _ _ _ _ _ (mkF _ _ _ [.int 3, .int 0, .ref b2, .int 0, .ref a1])
  have f2 := B_1.keep Kp2 nw_a4
  have f3 := B_2.keep Kp2 nw_a3
  have f4 := B_3.keep Kp2 nw_a2
  refine G72 X3 K (W := 0) (us := [.ref a2, .ref a3, .ref a4]) (vr := [.ref a2, .ref a3, .ref a4]) (tw H 150 rfl) (tw H 153 rfl) (tw H 151 rfl) (tw H 152 rfl) e3 f1 A2 (by decide) (by decide) (by decide) rfl (avS (Or.inr ⟨_, rfl, O2, (Ins.of_exa f4.1 (w88 H))⟩) (avS (Or.inr ⟨_, rfl, O2, (Ins.of_exa f3.1 (w88 H))⟩) (avS (Or.inr ⟨_, rfl, O2, (Ins.of_exa f2.1 (w88 H))⟩) av0))) (by decide) rfl N3 ge2 rfl d22_35 (by decide) (Nat.le_of_eq rfl) (by decide) ?_
  intro T4 h4 L4 X4 e4 N4 Kc4 F4
  have Ol4 := Ol2.keep Kc4 (allS ge2 all0)
  have Kp4 := Kp2.trans Kc4 (kaS (Or.inr sz2) all0)
  refine G0 X4 K d22_38 rfl rfl ?_
  refine G13 X4 K rfl rfl rfl d22_39 (by decide) (by decide) ?_
  have Kp : Keep h0 T4.heap [] := by rw [e4]; exact Kp4
  have f5 := (B2.keep Kc4)
  exact ⟨b2, kA2, rfl, N4, Kp, sz2, (by rw [e4]; exact F4), (by rw [e4]; exact f5), O2⟩
theorem rm21_27 (H : Hyp Z a0) (a1 a2 a3 a4 : Addr) (k1 : ClassId) (a5 a6 a7 : Addr) (Ol0 : Old Z (ζ Z) h0) (E_1 : Exa Z h0 a1 Q7) (A_1 : Arv Z h0 a1 k1 (.object Q3) 10 [.ref a2, .ref a3, .ref a4, .null, .null, .null, .null, .null, .null, .null] .null) (B_1 : Ω1 Z h0 a4 (.ref a5) (.int 0) (.int 0) (.int 0)) (B_2 : Ω1 Z h0 a3 (.ref a6) (.int 0) (.int 0) (.int 0)) (B_3 : Ω1 Z h0 a2 (.ref a7) (.int 0) (.int 0) (.int 0)) :
    Mt l Z M22 C52 2 (some (.array (.object Q3))) [] ⟨2, 1, 3, 35⟩ #[.ref a1, .int 3] h0 (fun v h L => (∃ (bx1 : Addr) (kB1 : ClassId), v = some (.ref bx1) ∧ Fr (ζ Z) L ∧ Keep h0 h [] ∧ h0.size ≤ bx1 ∧ Arv Z h bx1 kB1 (.object Q3) 3 [.ref a2, .ref a3, .ref a4] .null ∧ Exa Z h bx1 Q7 ∧ Ovr Z kB1 Q3)) := by
  refine g_be (pf pn14) (ef_13 a1) fun T0 K X0 e0 => ?_
  refine G0 X0 K d21_0 rfl rfl ?_
  refine G1 X0 K d21_1 rfl ?_
  refine G0 X0 K d21_2 rfl rfl ?_
  refine G73 X0 K (W := 2) (tw H 136 rfl) (tw H 137 rfl) (w113 H) (tw H 139 rfl) (tw H 138 rfl) (tw H 140 rfl) e0 E_1 (mirM H) rfl d21_3 (by decide) (Nat.le_of_eq rfl) (by decide) ?_
  intro T1 X1 e1
  refine G14 X1 K (W := 0) (tw H 142 rfl) (tw H 143 rfl) (w134 H) (tw H 144 rfl) (by decide) (rm22_26 H a1 a2 a3 a4 k1 a5 a6 a7 Ol0 A_1 B_1 B_2 B_3) e1 rfl rfl rfl (lenOf pd_11 rfl) rfl d21_6 (by decide) ?_
  rintro T2 v2 L2 X2 ⟨bx1, kB1, rfl, N2q, Kc2, lz2_0, g1, g2, g3⟩
  have szbx1 := Nat.le_trans (Keep.refl h0 []).1 lz2_0
  have gebx1 := Nat.le_trans Ol0.2.1 lz2_0
  have so1 := Sd.one bx1
  obtain ⟨N2, Ol2, Kp2⟩ := ivK (Fr.nil _) Ol0 (Keep.refl h0 []) N2q Kc2 all0 all0
  show Go _ _ _ _ _ (mkF _ _ _ [.ref bx1])
  refine G13 X2 K rfl rfl rfl d21_9 (by decide) (by decide) ?_
  exact ⟨bx1, kB1, rfl, N2, Kp2, szbx1, g1, g2, g3⟩
theorem rm20_28 (H : Hyp Z a0) (a1 a2 a3 a4 a5 : Addr) (k1 : ClassId) (a6 a7 a8 : Addr) (Ol0 : Old Z (ζ Z) h0) (B_1 : Ω0 Z h0 a1 (.int 3) (.ref a2) (.int 3)) (A_1 : Arv Z h0 a2 k1 (.object Q3) 10 [.ref a3, .ref a4, .ref a5, .null, .null, .null, .null, .null, .null, .null] .null) (B_2 : Ω1 Z h0 a5 (.ref a6) (.int 0) (.int 0) (.int 0)) (B_3 : Ω1 Z h0 a4 (.ref a7) (.int 0) (.int 0) (.int 0)) (B_4 : Ω1 Z h0 a3 (.ref a8) (.int 0) (.int 0) (.int 0)) (E_1 : Exa Z h0 a2 Q7) :
    Mt l Z M21 C54 1 (some (.array (.object Q3))) [] ⟨3, 1, 3, 48⟩ #[.ref a1] h0 (fun v h L => (∃ (bx1 : Addr) (kB1 : ClassId), v = some (.ref bx1) ∧ Fr (ζ Z) L ∧ Keep h0 h [] ∧ h0.size ≤ bx1 ∧ Arv Z h bx1 kB1 (.object Q3) 3 [.ref a3, .ref a4, .ref a5] .null ∧ Exa Z h bx1 Q7 ∧ Ovr Z kB1 Q3)) := by
  refine g_be (pf pn12) (ef_0 a1) fun T0 K X0 e0 => ?_
  refine G0 X0 K d20_0 rfl rfl ?_
  refine G2 X0 K (w25 H) Via.refl e0 B_1.2.2.1 d20_1 ?_
  intro T1 X1 e1
  refine G0 X1 K d20_4 rfl rfl ?_
  refine G2 X1 K (w65 H) Via.refl e1 B_1.2.2.2 d20_5 ?_
  intro T2 X2 e2
  refine G14 X2 K (W := 0) (tw H 132 rfl) (tw H 133 rfl) (w134 H) (tw H 135 rfl) (by decide) (rm21_27 H a2 a3 a4 a5 k1 a6 a7 a8 Ol0 E_1 A_1 B_2 B_3 B_4) e2 rfl rfl rfl (lenOf pd_12 rfl) rfl d20_8 (by decide) ?_
  rintro T3 v3 L3 X3 ⟨bx1, kB1, rfl, N3q, Kc3, lz3_0, g1, g2, g3⟩
  have szbx1 := Nat.le_trans (Keep.refl h0 []).1 lz3_0
  have gebx1 := Nat.le_trans Ol0.2.1 lz3_0
  have so1 := Sd.one bx1
  obtain ⟨N3, Ol3, Kp3⟩ := ivK (Fr.nil _) Ol0 (Keep.refl h0 []) N3q Kc3 all0 all0
  show Go _ _ _ _ _ (mkF _ _ _ [.ref bx1])
  refine G13 X3 K rfl rfl rfl d20_11 (by decide) (by decide) ?_
  exact ⟨bx1, kB1, rfl, N3, Kp3, szbx1, g1, g2, g3⟩
theorem rm26_29 (H : Hyp Z a0) (a1 : Addr) (Ol0 : Old Z (ζ Z) h0) :
    Mt l Z M29 C74 1 (some (.object Q3)) [] ⟨0, 0, 0, 0⟩ #[.ref a1] h0 (fun v h L => (v = some (.ref a1) ∧ Fr (ζ Z) L ∧ h = h0)) := by
  refine g_be (pf pn25) (ef_0 a1) fun T0 K X0 e0 => ?_
  refine G0 X0 K d26_0 rfl rfl ?_
  refine G51 12 X0 K d26_1 (by decide) (by decide) ?_
  refine G0 X0 K d26_12 rfl rfl ?_
  refine G13 X0 K rfl rfl rfl d26_13 (by decide) (by decide) ?_
  exact ⟨rfl, (Fr.nil _), e0⟩
theorem rm29_30 (H : Hyp Z a0) (a1 : Addr) (Ol0 : Old Z (ζ Z) h0) :
    Mt l Z M32 C81 1 none [] ⟨2, 0, 0, 24⟩ #[.ref a1] h0 (fun v h L => (v = none ∧ Fr (ζ Z) L ∧ h = h0)) := by
  refine g_be (pf pn19) (ef_0 a1) fun T0 K X0 e0 => ?_
  refine G0 X0 K d29_0 rfl rfl ?_
  refine G23 X0 K (W := 0) rfl (tw H 183 rfl) (tw H 14 rfl) (tw H 17 rfl) (tw H 18 rfl) (by decide) (rm3_1 H a1 Ol0) e0 rfl rfl rfl (lenOf pd_0 rfl) rfl d29_1 (by decide) ?_
  rintro T1 v1 L1 X1 ⟨rfl, N1q, e1⟩
  have N1 := Fr.app (Fr.nil _) N1q
  show Go _ _ _ _ _ (mkF _ _ _ [])
  refine G17 X1 K d29_4 (by decide) (by decide) ?_
  exact ⟨rfl, N1, e1⟩
theorem rm28_31 (H : Hyp Z a0) (a1 : Addr) (Ol0 : Old Z (ζ Z) h0) :
    Mt l Z M31 C80 1 none [] ⟨3, 0, 0, 36⟩ #[.ref a1] h0 (fun v h L => (v = none ∧ Fr (ζ Z) L ∧ h = h0)) := by
  refine g_be (pf pn20) (ef_0 a1) fun T0 K X0 e0 => ?_
  refine G0 X0 K d28_0 rfl rfl ?_
  refine G23 X0 K (W := 0) rfl (tw H 177 rfl) (tw H 178 rfl) (tw H 181 rfl) (tw H 182 rfl) (by decide) (rm29_30 H a1 Ol0) e0 rfl rfl rfl (lenOf pd_0 rfl) rfl d28_1 (by decide) ?_
  rintro T1 v1 L1 X1 ⟨rfl, N1q, e1⟩
  have N1 := Fr.app (Fr.nil _) N1q
  show Go _ _ _ _ _ (mkF _ _ _ [])
  refine G17 X1 K d28_4 (by decide) (by decide) ?_
  exact ⟨rfl, N1, e1⟩
theorem rm27_32 (H : Hyp Z a0) (a1 a2 : Addr) (Ol0 : Old Z (ζ Z) h0) (B_1 : Ω3 Z h0 a1 .null (.int 0)) (ge_1 : (ζ Z) ≤ a1) :
    Mt l Z M30 C47 3 none [] ⟨4, 0, 0, 48⟩ #[.ref a1, .ref a2, .int 0] h0 (fun v h L => (v = none ∧ Fr (ζ Z) L ∧ Keep h0 h [a1] ∧ Ω3 Z h a1 (.ref a2) (.int 0))) := by
  refine g_be (pf pn23) (ef_2 a1 a2) fun T0 K X0 e0 => ?_
  refine G0 X0 K d27_0 rfl rfl ?_
  refine G23 X0 K (W := 0) rfl (tw H 171 rfl) (tw H 172 rfl) (tw H 175 rfl) (tw H 176 rfl) (by decide) (rm28_31 H a1 Ol0) e0 rfl rfl rfl (lenOf pd_0 rfl) rfl d27_1 (by decide) ?_
  rintro T1 v1 L1 X1 ⟨rfl, N1q, e1⟩
  have N1 := Fr.app (Fr.nil _) N1q
  show Go _ _ _ _ _ (mkF _ _ _ [])
  refine G0 X1 K d27_4 rfl rfl ?_
  refine G0 X1 K d27_5 rfl rfl ?_
  refine G5 X1 K (tw H 185 rfl) Via.refl e1 B_1.2.1 B_1.1 (Or.inr ⟨(tw H 186 rfl), rfl, rfl⟩) (w165 H) (ty := (.array (.object Q3))) (by decide) rfl rfl d27_6 ?_
  intro T2 h2 X2 e2 W2 F2
  obtain ⟨N2, Ol2, Kp2⟩ := ivW N1 Ol0 (Keep.refl h0 [a1]) X2 W2 ge_1 (ow 0 rfl)
  have O2 := Ω3.s0 H B_1 W2
  refine G0 X2 K d27_9 rfl rfl ?_
  refine G1 X2 K d27_10 rfl ?_
  refine G5 X2 K (tw H 187 rfl) Via.refl e2 O2.2.2 O2.1 (Or.inr ⟨(tw H 188 rfl), rfl, rfl⟩) (w165 H) (ty := .boolean) (by decide) rfl rfl d27_11 ?_
  intro T3 h3 X3 e3 W3 F3
  obtain ⟨N3, Ol3, Kp3⟩ := ivW N2 Ol2 Kp2 X3 W3 ge_1 (ow 0 rfl)
  have O3 := Ω3.s1 H O2 W3
  refine G17 X3 K d27_14 (by decide) (by decide) ?_
  have Kp : Keep h0 T3.heap [a1] := by rw [e3]; exact Kp3
  exact ⟨rfl, N3, Kp, (by rw [e3]; exact O3)⟩
theorem rm25_33 (H : Hyp Z a0) (a1 a2 a3 a4 : Addr) (k1 : ClassId) (a5 a6 a7 : Addr) (Ol0 : Old Z (ζ Z) h0) (A_1 : Arv Z h0 a1 k1 (.object Q3) 3 [.ref a2, .ref a3, .ref a4] .null) (B_1 : Ω1 Z h0 a2 (.ref a5) (.int 0) (.int 0) (.int 0)) (B_2 : Ω1 Z h0 a3 (.ref a6) (.int 0) (.int 0) (.int 0)) (B_3 : Ω1 Z h0 a4 (.ref a7) (.int 0) (.int 0) (.int 0)) :
    Mt l Z M28 C12 3 (some (.object Q19)) [] ⟨5, 2, 5, 63⟩ #[.ref a1] h0 (fun v h L => (∃ (b1 b8 : Addr) (kA1 : ClassId), v = some (.ref b8) ∧ Fr (ζ Z) L ∧ Keep h0 h [] ∧ h0.size ≤ b1 ∧ b1 < b8 ∧ Arv Z h b1 kA1 (.object Q3) 3 [.ref a2, .ref a3, .ref a4] .null ∧ Exa Z h b1 Q7 ∧ Ovr Z kA1 Q3 ∧ Ω3 Z h b8 (.ref b1) (.int 0))) := by
  refine g_be (pf pn18) (ef_14 a1) fun T0 K X0 e0 => ?_
  have nw_a1 : a1 ∉ [] := nin0
  have nw_a2 : a2 ∉ [] := nin0
  have nw_a3 : a3 ∉ [] := nin0
  have nw_a4 : a4 ∉ [] := nin0
  refine G0 X0 K d25_0 rfl rfl ?_
  refine G21 X0 K e0 A_1 d25_1 ?_
  refine G54 X0 K (cap := 3) (vs := [.null, .null, .null]) (ad := Q7) (by decide) (tw H 160 rfl) (tw H 87 rfl) e0 d25_2 (by decide) (by decide) rfl (by decide) (by decide) (by decide) ?_
  intro T1 h1 b1 kA1 X1 e1 E1 z1 A1 O1 B1
  obtain ⟨sz1, ge1, Ol1, Kp1⟩ := ivE Ol0 (Keep.refl h0 []) E1 z1
  have so1 := Sd.one b1
  refine G38 X1 K (L' := #[vr a1, vr b1, un]) d25_5 rfl rfl ?_
  refine G3 X1 K (v := 0) d25_6 (by decide) ?_
  refine G24 X1 K (L' := #[vr a1, vr b1, vi 0]) d25_7 rfl ?_
  refine G1 X1 K d25_8 rfl ?_
  refine G0 X1 K d25_9 rfl rfl ?_
  have f1 := A_1.keep Kp1 nw_a1
  refine G21 X1 K e1 f1 d25_10 ?_
  refine G10 X1 K d25_11 (by decide) ?_
  refine G0 X1 K d25_14 rfl rfl ?_
  refine G1 X1 K d25_15 rfl ?_
  refine G0 X1 K d25_16 rfl rfl ?_
  refine G1 X1 K d25_17 rfl ?_
  refine G36 X1 K (v := (.ref a2)) e1 f1 rfl (by decide) rfl d25_18 ?_
  refine G14 X1 K (W := 2) (tw H 161 rfl) (tw H 162 rfl) (w163 H) (tw H 164 rfl) (by decide) (rm26_29 H a2 Ol1) e1 rfl rfl rfl (lenOf pd_13 rfl) rfl d25_19 (by decide) ?_
  rintro T2 v2 L2 X2 ⟨rfl, N2q, e2⟩
  have N2 := Fr.app (Fr.nil _) N2q
  show Go _ _ _ _ _ (mkF _ _ _ [.ref a2, .int 0, .ref b1])
  have f2 := B_1.keep Kp1 nw_a2
  refine G32 X2 K (vs' := [.ref a2, .null, .null]) e2 A1 (Or.inr ⟨_, rfl, O1, (Ins.of_exa f2.1 (w88 H))⟩) (by decide) (Nat.le_of_ble_eq_true rfl) rfl d25_22 ?_
  intro T3 h3 X3 e3 W3 F3
  obtain ⟨N3, Ol3, Kp3⟩ := ivW N2 Ol1 Kp1 X3 W3 ge1 (Or.inr sz1)
  refine G22 X3 K (z := 1) (L' := #[vr a1, vr b1, vi 1]) d25_23 rfl (by decide) rfl ?_
  refine G6 8 X3 K d25_26 (by decide) (by decide) ?_
  refine G1 X3 K d25_8 rfl ?_
  refine G0 X3 K d25_9 rfl rfl ?_
  have f3 := A_1.keep Kp3 nw_a1
  refine G21 X3 K e3 f3 d25_10 ?_
  refine G10 X3 K d25_11 (by decide) ?_
  refine G0 X3 K d25_14 rfl rfl ?_
  refine G1 X3 K d25_15 rfl ?_
  refine G0 X3 K d25_16 rfl rfl ?_
  refine G1 X3 K d25_17 rfl ?_
  refine G36 X3 K (v := (.ref a3)) e3 f3 rfl (by decide) rfl d25_18 ?_
  refine G14 X3 K (W := 2) (tw H 161 rfl) (tw H 162 rfl) (w163 H) (tw H 164 rfl) (by decide) (rm26_29 H a3 Ol3) e3 rfl rfl rfl (lenOf pd_13 rfl) rfl d25_19 (by decide) ?_
  rintro T4 v4 L4 X4 ⟨rfl, N4q, e4⟩
  have N4 := Fr.app N3 N4q
  show Go _ _ _ _ _ (mkF _ _ _ [.ref a3, .int 1, .ref b1])
  have f4 := B_2.keep Kp3 nw_a3
  refine G32 X4 K (vs' := [.ref a2, .ref a3, .null]) e4 F3 (Or.inr ⟨_, rfl, O1, (Ins.of_exa f4.1 (w88 H))⟩) (by decide) (Nat.le_of_ble_eq_true rfl) rfl d25_22 ?_
  intro T5 h5 X5 e5 W5 F5
  obtain ⟨N5, Ol5, Kp5⟩ := ivW N4 Ol3 Kp3 X5 W5 ge1 (Or.inr sz1)
  refine G22 X5 K (z := 2) (L' := #[vr a1, vr b1, vi 2]) d25_23 rfl (by decide) rfl ?_
  refine G6 8 X5 K d25_26 (by decide) (by decide) ?_
  refine G1 X5 K d25_8 rfl ?_
  refine G0 X5 K d25_9 rfl rfl ?_
  have f5 := A_1.keep Kp5 nw_a1
  refine G21 X5 K e5 f5 d25_10 ?_
  refine G10 X5 K d25_11 (by decide) ?_
  refine G0 X5 K d25_14 rfl rfl ?_
  refine G1 X5 K d25_15 rfl ?_
  refine G0 X5 K d25_16 rfl rfl ?_
  refine G1 X5 K d25_17 rfl ?_
  refine G36 X5 K (v := (.ref a4)) e5 f5 rfl (by decide) rfl d25_18 ?_
  refine G14 X5 K (W := 2) (tw H 161 rfl) (tw H 162 rfl) (w163 H) (tw H 164 rfl) (by decide) (rm26_29 H a4 Ol5) e5 rfl rfl rfl (lenOf pd_13 rfl) rfl d25_19 (by decide) ?_
  rintro T6 v6 L6 X6 ⟨rfl, N6q, e6⟩
  have N6 := Fr.app N5 N6q
  show Go _ _ _ _ _ (mkF _ _ _ [.ref a4, .int 2, .ref b1])
  have f6 := B_3.keep Kp5 nw_a4
  refine G32 X6 K (vs' := [.ref a2, .ref a3, .ref a4]) e6 F5 (Or.inr ⟨_, rfl, O1, (Ins.of_exa f6.1 (w88 H))⟩) (by decide) (Nat.le_of_ble_eq_true rfl) rfl d25_22 ?_
  intro T7 h7 X7 e7 W7 F7
  obtain ⟨N7, Ol7, Kp7⟩ := ivW N6 Ol5 Kp5 X7 W7 ge1 (Or.inr sz1)
  refine G22 X7 K (z := 3) (L' := #[vr a1, vr b1, vi 3]) d25_23 rfl (by decide) rfl ?_
  refine G6 8 X7 K d25_26 (by decide) (by decide) ?_
  refine G1 X7 K d25_8 rfl ?_
  refine G0 X7 K d25_9 rfl rfl ?_
  have f7 := A_1.keep Kp7 nw_a1
  refine G21 X7 K e7 f7 d25_10 ?_
  refine G19 29 X7 K d25_11 (by decide) (by decide) (by decide) ?_
  refine G27 X7 K (tw H 114 rfl) (w165 H) (w166 H) e7 d25_29 (by decide) (by decide) ?_
  intro T8 h8 b8 X8 e8 E8 z8 A8 D8
  obtain ⟨sz8, ge8, Ol8, Kp8⟩ := ivE Ol7 Kp7 E8 z8
  have lk8 := Nat.lt_of_lt_of_eq F7.lt z8
  have so2 := so1.cons lk8
  have O8 := Ω3.new H A8 D8
  refine G9 X8 K d25_32 rfl ?_
  refine G0 X8 K d25_33 rfl rfl ?_
  refine G3 X8 K (v := 0) d25_34 (by decide) ?_
  refine G83 X8 K (W := 1) rfl (tw H 167 rfl) (tw H 168 rfl) (w166 H) (tw H 170 rfl) (by decide) (rm27_32 H b8 b1 Ol8 O8 ge8) e8 rfl rfl rfl (lenOf pd_14 rfl) rfl d25_35 (by decide) ?_
  rintro T9 v9 L9 X9 ⟨rfl, N9q, Kc9, g1⟩
  obtain ⟨N9, Ol9, Kp9⟩ := ivK N7 Ol8 Kp8 N9q Kc9 (allS ge8 all0) (kaS (Or.inr sz8) all0)
  show Go _ _ _ _ _ (mkF _ _ _ [.ref b8])
  refine G13 X9 K rfl rfl rfl d25_38 (by decide) (by decide) ?_
  have f8 := ((F7.ext E8).keep Kc9 (so2.nin 1 [0] rfl rfl rfl))
  have f9 := (((((B1.wr W3).wr W5).wr W7).ext E8).keep Kc9)
  exact ⟨b1, b8, kA1, rfl, N9, Kp9, sz1, lk8, f8, f9, O1, g1⟩
theorem rm24_34 (H : Hyp Z a0) (a1 a2 a3 a4 : Addr) (k1 : ClassId) (a5 a6 a7 : Addr) (Ol0 : Old Z (ζ Z) h0) (A_1 : Arv Z h0 a1 k1 (.object Q3) 3 [.ref a2, .ref a3, .ref a4] .null) (B_1 : Ω1 Z h0 a2 (.ref a5) (.int 0) (.int 0) (.int 0)) (B_2 : Ω1 Z h0 a3 (.ref a6) (.int 0) (.int 0) (.int 0)) (B_3 : Ω1 Z h0 a4 (.ref a7) (.int 0) (.int 0) (.int 0)) :
    Mt l Z M27 C22 2 (some (.object Q19)) [] ⟨6, 2, 5, 77⟩ #[.ref a1] h0 (fun v h L => (∃ (bx1 bx2 : Addr) (kB1 : ClassId), v = some (.ref bx2) ∧ Fr (ζ Z) L ∧ Keep h0 h [] ∧ h0.size ≤ bx1 ∧ bx1 < bx2 ∧ Arv Z h bx1 kB1 (.object Q3) 3 [.ref a2, .ref a3, .ref a4] .null ∧ Exa Z h bx1 Q7 ∧ Ovr Z kB1 Q3 ∧ Ω3 Z h bx2 (.ref bx1) (.int 0))) := by
  refine g_be (pf pn24) (ef_15 a1) fun T0 K X0 e0 => ?_
  refine G0 X0 K d24_0 rfl rfl ?_
  refine G21 X0 K e0 A_1 d24_1 ?_
  refine G84 59 X0 K (i := 3) d24_2 (by decide) (by decide) (by decide) ?_
  refine G0 X0 K d24_59 rfl rfl ?_
  refine G14 X0 K (W := 0) (tw H 157 rfl) (tw H 158 rfl) (w107 H) (tw H 159 rfl) (by decide) (rm25_33 H a1 a2 a3 a4 k1 a5 a6 a7 Ol0 A_1 B_1 B_2 B_3) e0 rfl rfl rfl (lenOf pd_15 rfl) rfl d24_60 (by decide) ?_
  rintro T1 v1 L1 X1 ⟨bx1, bx2, kB1, rfl, N1q, Kc1, lz1_0, lz1_1, g1, g2, g3, g4⟩
  have szbx1 := Nat.le_trans (Keep.refl h0 []).1 lz1_0
  have gebx1 := Nat.le_trans Ol0.2.1 lz1_0
  have so1 := Sd.one bx1
  have szbx2 := Nat.le_trans szbx1 (Nat.le_of_lt lz1_1)
  have gebx2 := Nat.le_trans gebx1 (Nat.le_of_lt lz1_1)
  have so2 := so1.cons lz1_1
  obtain ⟨N1, Ol1, Kp1⟩ := ivK (Fr.nil _) Ol0 (Keep.refl h0 []) N1q Kc1 all0 all0
  show Go _ _ _ _ _ (mkF _ _ _ [.ref bx2])
  refine G13 X1 K rfl rfl rfl d24_63 (by decide) (by decide) ?_
  exact ⟨bx1, bx2, kB1, rfl, N1, Kp1, szbx1, lz1_1, g1, g2, g3, g4⟩
theorem rm18_35 (H : Hyp Z a0) (a1 a2 a3 a4 a5 : Addr) (k1 : ClassId) (a6 a7 a8 : Addr) (Ol0 : Old Z (ζ Z) h0) (B_1 : Ω0 Z h0 a1 (.int 3) (.ref a2) (.int 3)) (A_1 : Arv Z h0 a2 k1 (.object Q3) 10 [.ref a3, .ref a4, .ref a5, .null, .null, .null, .null, .null, .null, .null] .null) (B_2 : Ω1 Z h0 a5 (.ref a6) (.int 0) (.int 0) (.int 0)) (B_3 : Ω1 Z h0 a4 (.ref a7) (.int 0) (.int 0) (.int 0)) (B_4 : Ω1 Z h0 a3 (.ref a8) (.int 0) (.int 0) (.int 0)) (E_1 : Exa Z h0 a2 Q7) :
    Mt l Z M17 C33 2 (some (.object Q19)) [] ⟨7, 3, 8, 90⟩ #[.ref a1] h0 (fun v h L => (∃ (bx2 bx3 : Addr) (kB2 : ClassId), v = some (.ref bx3) ∧ Fr (ζ Z) L ∧ Keep h0 h [] ∧ h0.size ≤ bx2 ∧ bx2 < bx3 ∧ Arv Z h bx2 kB2 (.object Q3) 3 [.ref a3, .ref a4, .ref a5] .null ∧ Exa Z h bx2 Q7 ∧ Ovr Z kB2 Q3 ∧ Ω3 Z h bx3 (.ref bx2) (.int 0))) := by
  refine g_be (pf pn18) (ef_15 a1) fun T0 K X0 e0 => ?_
  have nw_a3 : a3 ∉ [] := nin0
  have nw_a4 : a4 ∉ [] := nin0
  have nw_a5 : a5 ∉ [] := nin0
  refine G0 X0 K d18_0 rfl rfl ?_
  refine G65 X0 K (tw H 109 rfl) e0 B_1.1 (NI.no (w110 H) (w236 H) (NI.step (w110 H) (NI.step (tw H 111 rfl) (NI.step (tw H 112 rfl) (NI.root (w113 H) (w236 H) (by decide)) (by decide)) (by decide)) (by decide)) (by decide)) d18_1 ?_
  intro T1 X1 e1
  refine G11 X1 K d18_4 (by decide) ?_
  refine G0 X1 K d18_7 rfl rfl ?_
  refine G65 X1 K (tw H 114 rfl) e1 B_1.1 (NI.no (w110 H) (w165 H) (NI.step (w110 H) (NI.step (tw H 111 rfl) (NI.step (tw H 112 rfl) (NI.root (w113 H) (w165 H) (by decide)) (by decide)) (by decide)) (by decide)) (by decide)) d18_8 ?_
  intro T2 X2 e2
  refine G15 31 X2 K d18_11 (by decide) (by decide) (by decide) ?_
  refine G0 X2 K d18_31 rfl rfl ?_
  refine G20 X2 K (W := 0) (tw H 115 rfl) (tw H 116 rfl) (mvT K.z (tw H 117 rfl)) (tw H 118 rfl) (tw H 119 rfl) (tw H 120 rfl) (tw H 121 rfl) (tw H 122 rfl) (w3 H) (tw H 123 rfl) (by decide) (rm19_24 H a1 a2 Ol0 B_1) e2 B_1.1 rfl rfl rfl (lenOf pd_10 rfl) rfl d18_32 (by decide) ?_
  rintro T3 v3 L3 X3 ⟨rfl, N3q, e3⟩
  have N3 := Fr.app (Fr.nil _) N3q
  show Go _ _ _ _ _ (mkF _ _ _ [.int 0])
  refine G15 44 X3 K d18_37 (by decide) (by decide) (by decide) ?_
  refine G0 X3 K d18_44 rfl rfl ?_
  refine G20 X3 K (W := 0) (tw H 124 rfl) (tw H 125 rfl) (mvT K.z (tw H 126 rfl)) (tw H 127 rfl) (tw H 128 rfl) (tw H 129 rfl) (tw H 130 rfl) (tw H 122 rfl) (w3 H) (tw H 131 rfl) (by decide) (rm20_28 H a1 a2 a3 a4 a5 k1 a6 a7 a8 Ol0 B_1 A_1 B_2 B_3 B_4 E_1) e3 B_1.1 rfl rfl rfl (lenOf pd_7 rfl) rfl d18_45 (by decide) ?_
  rintro T4 v4 L4 X4 ⟨bx1, kB1, rfl, N4q, Kc4, lz4_0, g1, g2, g3⟩
  have szbx1 := Nat.le_trans (Keep.refl h0 []).1 lz4_0
  have gebx1 := Nat.le_trans Ol0.2.1 lz4_0
  have so1 := Sd.one bx1
  obtain ⟨N4, Ol4, Kp4⟩ := ivK N3 Ol0 (Keep.refl h0 []) N4q Kc4 all0 all0
  show Go _ _ _ _ _ (mkF _ _ _ [.ref bx1])
  have f1 := B_4.keep Kp4 nw_a3
  have f2 := B_3.keep Kp4 nw_a4
  have f3 := B_2.keep Kp4 nw_a5
  refine G14 X4 K (W := 0) (tw H 154 rfl) (tw H 155 rfl) (tw H 103 rfl) (tw H 156 rfl) (by decide) (rm24_34 H bx1 a3 a4 a5 kB1 a8 a7 a6 Ol4 g1 f1 f2 f3) rfl rfl rfl rfl (lenOf pd_15 rfl) rfl d18_50 (by decide) ?_
  rintro T5 v5 L5 X5 ⟨bx2, bx3, kB2, rfl, N5q, Kc5, lz5_0, lz5_1, g4, g5, g6, g7⟩
  have szbx2 := Nat.le_trans Kp4.1 lz5_0
  have gebx2 := Nat.le_trans Ol4.2.1 lz5_0
  have lkbx2 : bx1 < bx2 := Nat.lt_of_lt_of_le g1.lt lz5_0
  have so2 := so1.cons lkbx2
  have szbx3 := Nat.le_trans szbx2 (Nat.le_of_lt lz5_1)
  have gebx3 := Nat.le_trans gebx2 (Nat.le_of_lt lz5_1)
  have so3 := so2.cons lz5_1
  obtain ⟨N5, Ol5, Kp5⟩ := ivK N4 Ol4 Kp4 N5q Kc5 all0 all0
  show Go _ _ _ _ _ (mkF _ _ _ [.ref bx3])
  refine G13 X5 K rfl rfl rfl d18_53 (by decide) (by decide) ?_
  exact ⟨bx2, bx3, kB2, rfl, N5, Kp5, szbx2, lz5_1, g4, g5, g6, g7⟩
theorem rm17_36 (H : Hyp Z a0) (a1 a2 a3 a4 a5 : Addr) (k1 : ClassId) (a6 a7 a8 : Addr) (Ol0 : Old Z (ζ Z) h0) (B_1 : Ω0 Z h0 a1 (.int 3) (.ref a2) (.int 3)) (A_1 : Arv Z h0 a2 k1 (.object Q3) 10 [.ref a3, .ref a4, .ref a5, .null, .null, .null, .null, .null, .null, .null] .null) (B_2 : Ω1 Z h0 a5 (.ref a6) (.int 0) (.int 0) (.int 0)) (B_3 : Ω1 Z h0 a4 (.ref a7) (.int 0) (.int 0) (.int 0)) (B_4 : Ω1 Z h0 a3 (.ref a8) (.int 0) (.int 0) (.int 0)) (E_1 : Exa Z h0 a2 Q7) :
    Mt l Z M16 C73 1 (some (.object Q19)) [] ⟨8, 3, 8, 103⟩ #[.ref a1] h0 (fun v h L => (∃ (bx1 bx2 : Addr) (kB1 : ClassId), v = some (.ref bx2) ∧ Fr (ζ Z) L ∧ Keep h0 h [] ∧ h0.size ≤ bx1 ∧ bx1 < bx2 ∧ Arv Z h bx1 kB1 (.object Q3) 3 [.ref a3, .ref a4, .ref a5] .null ∧ Exa Z h bx1 Q7 ∧ Ovr Z kB1 Q3 ∧ Ω3 Z h bx2 (.ref bx1) (.int 0))) := by
  refine g_be (pf pn24) (ef_0 a1) fun T0 K X0 e0 => ?_
  refine G0 X0 K d17_0 rfl rfl ?_
  refine G14 X0 K (W := 0) (tw H 105 rfl) (tw H 106 rfl) (w107 H) (tw H 108 rfl) (by decide) (rm18_35 H a1 a2 a3 a4 a5 k1 a6 a7 a8 Ol0 B_1 A_1 B_2 B_3 B_4 E_1) e0 rfl rfl rfl (lenOf pd_16 rfl) rfl d17_1 (by decide) ?_
  rintro T1 v1 L1 X1 ⟨bx1, bx2, kB1, rfl, N1q, Kc1, lz1_0, lz1_1, g1, g2, g3, g4⟩
  have szbx1 := Nat.le_trans (Keep.refl h0 []).1 lz1_0
  have gebx1 := Nat.le_trans Ol0.2.1 lz1_0
  have so1 := Sd.one bx1
  have szbx2 := Nat.le_trans szbx1 (Nat.le_of_lt lz1_1)
  have gebx2 := Nat.le_trans gebx1 (Nat.le_of_lt lz1_1)
  have so2 := so1.cons lz1_1
  obtain ⟨N1, Ol1, Kp1⟩ := ivK (Fr.nil _) Ol0 (Keep.refl h0 []) N1q Kc1 all0 all0
  show Go _ _ _ _ _ (mkF _ _ _ [.ref bx2])
  refine G13 X1 K rfl rfl rfl d17_4 (by decide) (by decide) ?_
  exact ⟨bx1, bx2, kB1, rfl, N1, Kp1, szbx1, lz1_1, g1, g2, g3, g4⟩
theorem rm15_37 (H : Hyp Z a0) (a1 a2 a3 a4 a5 a6 a7 : Addr) (k1 : ClassId) (a8 a9 a10 : Addr) (Ol0 : Old Z (ζ Z) h0) (B_1 : Ω0 Z h0 a3 (.int 3) (.ref a4) (.int 3)) (A_1 : Arv Z h0 a4 k1 (.object Q3) 10 [.ref a5, .ref a6, .ref a7, .null, .null, .null, .null, .null, .null, .null] .null) (B_2 : Ω1 Z h0 a7 (.ref a8) (.int 0) (.int 0) (.int 0)) (B_3 : Ω1 Z h0 a6 (.ref a9) (.int 0) (.int 0) (.int 0)) (B_4 : Ω1 Z h0 a5 (.ref a10) (.int 0) (.int 0) (.int 0)) (E_1 : Exa Z h0 a4 Q7) (B_5 : Ω2 Z h0 a1 .null .null) (ge_1 : (ζ Z) ≤ a1) :
    Mt l Z M14 C38 3 none [] ⟨9, 3, 8, 115⟩ #[.ref a1, .ref a2, .ref a3] h0 (fun v h L => (∃ (bx1 bx2 : Addr) (kB1 : ClassId), v = none ∧ Fr (ζ Z) L ∧ Keep h0 h [a1] ∧ h0.size ≤ bx1 ∧ bx1 < bx2 ∧ Ω2 Z h a1 (.ref a2) (.ref bx2) ∧ Arv Z h bx1 kB1 (.object Q3) 3 [.ref a5, .ref a6, .ref a7] .null ∧ Exa Z h bx1 Q7 ∧ Ovr Z kB1 Q3 ∧ Ω3 Z h bx2 (.ref bx1) (.int 0))) := by
  refine g_be (pf pn0) (ef_16 a1 a2 a3) fun T0 K X0 e0 => ?_
  refine G0 X0 K d15_0 rfl rfl ?_
  refine G23 X0 K (W := 0) rfl (tw H 95 rfl) (tw H 96 rfl) (tw H 98 rfl) (tw H 99 rfl) (by decide) (rm16_23 H a1 Ol0) e0 rfl rfl rfl (lenOf pd_0 rfl) rfl d15_1 (by decide) ?_
  rintro T1 v1 L1 X1 ⟨rfl, N1q, e1⟩
  have N1 := Fr.app (Fr.nil _) N1q
  show Go _ _ _ _ _ (mkF _ _ _ [])
  refine G0 X1 K d15_4 rfl rfl ?_
  refine G14 X1 K (W := 0) (tw H 101 rfl) (tw H 102 rfl) (tw H 103 rfl) (tw H 104 rfl) (by decide) (rm17_36 H a3 a4 a5 a6 a7 k1 a8 a9 a10 Ol0 B_1 A_1 B_2 B_3 B_4 E_1) e1 rfl rfl rfl (lenOf pd_16 rfl) rfl d15_5 (by decide) ?_
  rintro T2 v2 L2 X2 ⟨bx1, bx2, kB1, rfl, N2q, Kc2, lz2_0, lz2_1, g1, g2, g3, g4⟩
  have szbx1 := Nat.le_trans (Keep.refl h0 [a1]).1 lz2_0
  have gebx1 := Nat.le_trans Ol0.2.1 lz2_0
  have so1 := Sd.one bx1
  have szbx2 := Nat.le_trans szbx1 (Nat.le_of_lt lz2_1)
  have gebx2 := Nat.le_trans gebx1 (Nat.le_of_lt lz2_1)
  have so2 := so1.cons lz2_1
  obtain ⟨N2, Ol2, Kp2⟩ := ivK N1 Ol0 (Keep.refl h0 [a1]) N2q Kc2 all0 all0
  show Go _ _ _ _ _ (mkF _ _ _ [.ref bx2])
  refine G38 X2 K (L' := #[vr a1, vr a2, vr bx2]) d15_8 rfl rfl ?_
  refine G0 X2 K d15_9 rfl rfl ?_
  refine G0 X2 K d15_10 rfl rfl ?_
  have f1 := (B_5.keep Kc2 nin0)
  refine G5 X2 K (tw H 189 rfl) Via.refl rfl f1.2.1 f1.1 (Or.inr ⟨(tw H 190 rfl), rfl, rfl⟩) (tw H 90 rfl) (ty := (.object Q10)) (by decide) rfl rfl d15_11 ?_
  intro T3 h3 X3 e3 W3 F3
  obtain ⟨N3, Ol3, Kp3⟩ := ivW N2 Ol2 Kp2 X3 W3 ge_1 (ow 0 rfl)
  have O3 := Ω2.s0 H f1 W3
  refine G0 X3 K d15_14 rfl rfl ?_
  refine G0 X3 K d15_15 rfl rfl ?_
  refine G5 X3 K (tw H 191 rfl) Via.refl e3 O3.2.2 O3.1 (Or.inr ⟨(tw H 192 rfl), rfl, rfl⟩) (tw H 90 rfl) (ty := (.object Q19)) (by decide) rfl rfl d15_16 ?_
  intro T4 h4 X4 e4 W4 F4
  obtain ⟨N4, Ol4, Kp4⟩ := ivW N3 Ol3 Kp3 X4 W4 ge_1 (ow 0 rfl)
  have O4 := Ω2.s1 H O3 W4
  refine G17 X4 K d15_19 (by decide) (by decide) ?_
  have Kp : Keep h0 T4.heap [a1] := by rw [e4]; exact Kp4
  have ne1 : a1 ≠ bx1 := (Nat.ne_of_lt (Nat.lt_of_lt_of_le B_5.lt szbx1))
  have f2 := ((g1.other W3 (Ne.symm ne1)).other W4 (Ne.symm ne1))
  have f3 := ((g2.wr W3).wr W4)
  have ne2 : a1 ≠ bx2 := (Nat.ne_of_lt (Nat.lt_of_lt_of_le B_5.lt szbx2))
  have f4 := ((g4.other W3 (Ne.symm ne2)).other W4 (Ne.symm ne2))
  exact ⟨bx1, bx2, kB1, rfl, N4, Kp, szbx1, lz2_1, (by rw [e4]; exact O4), (by rw [e4]; exact f2), (by rw [e4]; exact f3), g3, (by rw [e4]; exact f4)⟩
theorem rm5_38 (H : Hyp Z a0) (a1 : Addr) (Ol0 : Old Z (ζ Z) h0) :
    Mt l Z M4 method_2_code 3 (some (.object Q11)) [] ⟨10, 12, 38, 130⟩ #[.ref a1, .int 97] h0 (fun v h L => (∃ (bx1 bx2 bx4 bx5 bx6 bx7 b9 bx8 bx9 : Addr) (kB1 kB3 kB4 kB5 : ClassId), v = some (.ref b9) ∧ Fr (ζ Z) L ∧ Keep h0 h [] ∧ h0.size ≤ bx1 ∧ bx1 < bx2 ∧ bx2 < bx4 ∧ bx4 < bx5 ∧ bx5 < bx6 ∧ bx6 < bx7 ∧ bx7 < b9 ∧ b9 < bx8 ∧ bx8 < bx9 ∧ Ω1 Z h bx1 (.ref bx2) (.int 0) (.int 0) (.int 0) ∧ Arv Z h bx2 kB1 .byte 1 [.int 97] (.int 0) ∧ Ω1 Z h bx4 (.ref bx5) (.int 0) (.int 0) (.int 0) ∧ Arv Z h bx5 kB3 .byte 1 [.int 98] (.int 0) ∧ Ω1 Z h bx6 (.ref bx7) (.int 0) (.int 0) (.int 0) ∧ Arv Z h bx7 kB4 .byte 1 [.int 99] (.int 0) ∧ Ω2 Z h b9 (.ref a1) (.ref bx9) ∧ Arv Z h bx8 kB5 (.object Q3) 3 [.ref bx1, .ref bx4, .ref bx6] .null ∧ Exa Z h bx8 Q7 ∧ Ovr Z kB5 Q3 ∧ Ω3 Z h bx9 (.ref bx8) (.int 0))) := by
  refine g_be (pf pn2) (ef_17 a1) fun T0 K X0 e0 => ?_
  refine G27 X0 K (tw H 1 rfl) (w2 H) (w3 H) e0 d5_0 (by decide) (by decide) ?_
  intro T1 h1 b1 X1 e1 E1 z1 A1 D1
  obtain ⟨sz1, ge1, Ol1, Kp1⟩ := ivE Ol0 (Keep.refl h0 []) E1 z1
  have so1 := Sd.one b1
  have O1 := Ω0.new H A1 D1
  refine G9 X1 K d5_3 rfl ?_
  refine G23 X1 K (W := 1) rfl (tw H 4 rfl) (tw H 5 rfl) (w3 H) (tw H 6 rfl) (by decide) (rm1_3 H b1 Ol1 O1 ge1) e1 rfl rfl rfl (lenOf pd_0 rfl) rfl d5_4 (by decide) ?_
  rintro T2 v2 L2 X2 ⟨rfl, N2q, Kc2, g1⟩
  obtain ⟨N2, Ol2, Kp2⟩ := ivK (Fr.nil _) Ol1 Kp1 N2q Kc2 (allS ge1 all0) (kaS (Or.inr sz1) all0)
  show Go _ _ _ _ _ (mkF _ _ _ [.ref b1])
  refine G38 X2 K (L' := #[vr a1, vi 97, vr b1]) d5_7 rfl rfl ?_
  refine G0 X2 K d5_8 rfl rfl ?_
  refine G1 X2 K d5_9 rfl ?_
  refine G14 X2 K (W := 1) (w39 H) (w40 H) (w28 H) (w41 H) (by decide) (rm6_7 H Ol2) rfl rfl rfl rfl (lenOf pd_4 rfl) rfl d5_10 (by decide) ?_
  rintro T3 v3 L3 X3 ⟨bx1, bx2, kB1, rfl, N3q, Kc3, lz3_0, lz3_1, g2, g3⟩
  have szbx1 := Nat.le_trans Kp2.1 lz3_0
  have gebx1 := Nat.le_trans Ol2.2.1 lz3_0
  have lkbx1 : b1 < bx1 := Nat.lt_of_lt_of_le g1.lt lz3_0
  have so2 := so1.cons lkbx1
  have szbx2 := Nat.le_trans szbx1 (Nat.le_of_lt lz3_1)
  have gebx2 := Nat.le_trans gebx1 (Nat.le_of_lt lz3_1)
  have so3 := so2.cons lz3_1
  obtain ⟨N3, Ol3, Kp3⟩ := ivK N2 Ol2 Kp2 N3q Kc3 all0 all0
  show Go _ _ _ _ _ (mkF _ _ _ [.ref bx1, .ref b1])
  have f1 := (g1.keep Kc3 nin0)
  have ne1 := so3.ne 1 2 rfl rfl rfl
  refine G8 X3 K (W := 0) (w58 H) (w59 H) (nf_self K (w61 H)) (w61 H) (w60 H) (w3 H) (w62 H) (by decide) (rm10_12 H b1 bx1 bx2 Ol3 f1 ge1 g2 ne1) rfl f1.1 rfl rfl rfl (lenOf pd_9 rfl) rfl d5_13 (by decide) ?_
  rintro T4 v4 L4 X4 ⟨bx3, kB2, rfl, N4q, Kc4, lz4_0, g4, g5, g6, g7⟩
  have szbx3 := Nat.le_trans Kp3.1 lz4_0
  have gebx3 := Nat.le_trans Ol3.2.1 lz4_0
  have lkbx3 : bx2 < bx3 := Nat.lt_of_lt_of_le g3.lt lz4_0
  have so4 := so3.cons lkbx3
  obtain ⟨N4, Ol4, Kp4⟩ := ivK N3 Ol3 Kp3 N4q Kc4 (allS ge1 all0) (kaS (Or.inr sz1) all0)
  show Go _ _ _ _ _ (mkF _ _ _ [.int 1])
  refine G37 X4 K d5_16 rfl ?_
  refine G0 X4 K d5_17 rfl rfl ?_
  refine G1 X4 K d5_18 rfl ?_
  refine G3 X4 K (v := 1) d5_19 (by decide) ?_
  refine G16 X4 K d5_20 (z := 98) (by decide) ?_
  refine G66 X4 K d5_21 (z := 98) (by decide) ?_
  refine G14 X4 K (W := 1) (w39 H) (w40 H) (w28 H) (w41 H) (by decide) (rm6_15 H Ol4) rfl rfl rfl rfl (lenOf pd_4 rfl) rfl d5_22 (by decide) ?_
  rintro T5 v5 L5 X5 ⟨bx4, bx5, kB3, rfl, N5q, Kc5, lz5_0, lz5_1, g8, g9⟩
  have szbx4 := Nat.le_trans Kp4.1 lz5_0
  have gebx4 := Nat.le_trans Ol4.2.1 lz5_0
  have lkbx4 : bx3 < bx4 := Nat.lt_of_lt_of_le g5.lt lz5_0
  have so5 := so4.cons lkbx4
  have szbx5 := Nat.le_trans szbx4 (Nat.le_of_lt lz5_1)
  have gebx5 := Nat.le_trans gebx4 (Nat.le_of_lt lz5_1)
  have so6 := so5.cons lz5_1
  obtain ⟨N5, Ol5, Kp5⟩ := ivK N4 Ol4 Kp4 N5q Kc5 all0 all0
  show Go _ _ _ _ _ (mkF _ _ _ [.ref bx4, .ref b1])
  have f2 := (g4.keep Kc5 nin0)
  have f3 := (g5.keep Kc5 nin0)
  have ne2 := so6.ne 2 5 rfl rfl rfl
  have ne3 := so6.ne 1 2 rfl rfl rfl
  have ne4 := so6.ne 1 5 rfl rfl rfl
  refine G8 X5 K (W := 0) (w58 H) (w59 H) (nf_self K (w61 H)) (w61 H) (w60 H) (w3 H) (w62 H) (by decide) (rm10_17 H b1 bx4 bx3 bx1 kB2 bx5 Ol5 f2 ge1 f3 g8 ne2 g7 gebx3 (Ne.symm ne2) ne3 ne4) rfl f2.1 rfl rfl rfl (lenOf pd_9 rfl) rfl d5_25 (by decide) ?_
  rintro T6 v6 L6 X6 ⟨rfl, N6q, Kc6, g10, g11⟩
  obtain ⟨N6, Ol6, Kp6⟩ := ivK N5 Ol5 Kp5 N6q Kc6 (allS ge1 (allS gebx3 all0)) (kaS (Or.inr sz1) (kaS (Or.inr szbx3) all0))
  show Go _ _ _ _ _ (mkF _ _ _ [.int 1])
  refine G37 X6 K d5_28 rfl ?_
  refine G0 X6 K d5_29 rfl rfl ?_
  refine G1 X6 K d5_30 rfl ?_
  refine G3 X6 K (v := 2) d5_31 (by decide) ?_
  refine G16 X6 K d5_32 (z := 99) (by decide) ?_
  refine G66 X6 K d5_33 (z := 99) (by decide) ?_
  refine G14 X6 K (W := 1) (w39 H) (w40 H) (w28 H) (w41 H) (by decide) (rm6_20 H Ol6) rfl rfl rfl rfl (lenOf pd_4 rfl) rfl d5_34 (by decide) ?_
  rintro T7 v7 L7 X7 ⟨bx6, bx7, kB4, rfl, N7q, Kc7, lz7_0, lz7_1, g12, g13⟩
  have szbx6 := Nat.le_trans Kp6.1 lz7_0
  have gebx6 := Nat.le_trans Ol6.2.1 lz7_0
  have f4 := (g9.keep Kc6 (so6.nin 0 [5, 2] rfl rfl rfl))
  have lkbx6 : bx5 < bx6 := Nat.lt_of_lt_of_le f4.lt lz7_0
  have so7 := so6.cons lkbx6
  have szbx7 := Nat.le_trans szbx6 (Nat.le_of_lt lz7_1)
  have gebx7 := Nat.le_trans gebx6 (Nat.le_of_lt lz7_1)
  have so8 := so7.cons lz7_1
  obtain ⟨N7, Ol7, Kp7⟩ := ivK N6 Ol6 Kp6 N7q Kc7 all0 all0
  show Go _ _ _ _ _ (mkF _ _ _ [.ref bx6, .ref b1])
  have f5 := (g10.keep Kc7 nin0)
  have f6 := (g11.keep Kc7 nin0)
  have ne5 := so8.ne 1 4 rfl rfl rfl
  have ne6 := so8.ne 1 7 rfl rfl rfl
  refine G8 X7 K (W := 0) (w58 H) (w59 H) (nf_self K (w61 H)) (w61 H) (w60 H) (w3 H) (w62 H) (by decide) (rm10_22 H b1 bx6 bx3 bx1 bx4 kB2 bx7 Ol7 f5 ge1 f6 g12 ne2 g7 gebx3 (Ne.symm ne2) ne5 ne6) rfl f5.1 rfl rfl rfl (lenOf pd_9 rfl) rfl d5_37 (by decide) ?_
  rintro T8 v8 L8 X8 ⟨rfl, N8q, Kc8, g14, g15⟩
  obtain ⟨N8, Ol8, Kp8⟩ := ivK N7 Ol7 Kp7 N8q Kc8 (allS ge1 (allS gebx3 all0)) (kaS (Or.inr sz1) (kaS (Or.inr szbx3) all0))
  show Go _ _ _ _ _ (mkF _ _ _ [.int 1])
  refine G37 X8 K d5_40 rfl ?_
  refine G27 X8 K (tw H 89 rfl) (tw H 90 rfl) (w91 H) rfl d5_41 (by decide) (by decide) ?_
  intro T9 h9 b9 X9 e9 E9 z9 A9 D9
  have f7 := (g13.keep Kc8 (so8.nin 0 [7, 4] rfl rfl rfl))
  obtain ⟨sz9, ge9, Ol9, Kp9⟩ := ivE Ol8 Kp8 E9 z9
  have lk9 := Nat.lt_of_lt_of_eq f7.lt z9
  have so9 := so8.cons lk9
  have O9 := Ω2.new H A9 D9
  refine G9 X9 K d5_44 rfl ?_
  refine G0 X9 K d5_45 rfl rfl ?_
  refine G0 X9 K d5_46 rfl rfl ?_
  have f8 := (g14.ext E9)
  have f9 := (g15.ext E9)
  have f10 := ((g12.keep Kc8 (so9.nin 2 [8, 5] rfl rfl rfl)).ext E9)
  have f11 := ((((g8.keep Kc6 (so9.nin 4 [8, 5] rfl rfl rfl)).keep Kc7 nin0).keep Kc8 (so9.nin 4 [8, 5] rfl rfl rfl)).ext E9)
  have kb1 := Keep.cat Kc5 Kc6 [b1, bx3] [] [0, 1] rfl rfl
  have kb2 := Keep.cat Kc7 Kc8 [b1, bx3] [] [0, 1] rfl rfl
  have kb3 := Keep.cat kb1 kb2 [b1, bx3] [0, 1] [0, 1] rfl rfl
  have f12 := (((g2.keep Kc4 (so9.nin 7 [8] rfl rfl rfl)).keep kb3 (so9.nin 7 [8, 5] rfl rfl rfl)).ext E9)
  have f13 := ((g6.keep kb3).ext E9)
  refine G23 X9 K (W := 1) rfl (tw H 92 rfl) (tw H 93 rfl) (w91 H) (tw H 94 rfl) (by decide) (rm15_37 H b9 a1 b1 bx3 bx1 bx4 bx6 kB2 bx7 bx5 bx2 Ol9 f8 f9 f10 f11 f12 f13 O9 ge9) e9 rfl rfl rfl (lenOf pd_17 rfl) rfl d5_47 (by decide) ?_
  rintro T10 v10 L10 X10 ⟨bx8, bx9, kB5, rfl, N10q, Kc10, lz10_0, lz10_1, g16, g17, g18, g19, g20⟩
  have szbx8 := Nat.le_trans Kp9.1 lz10_0
  have gebx8 := Nat.le_trans Ol9.2.1 lz10_0
  have lkbx8 : b9 < bx8 := Nat.lt_of_lt_of_le O9.lt lz10_0
  have so10 := so9.cons lkbx8
  have szbx9 := Nat.le_trans szbx8 (Nat.le_of_lt lz10_1)
  have gebx9 := Nat.le_trans gebx8 (Nat.le_of_lt lz10_1)
  have so11 := so10.cons lz10_1
  obtain ⟨N10, Ol10, Kp10⟩ := ivK N8 Ol9 Kp9 N10q Kc10 (allS ge9 all0) (kaS (Or.inr sz9) all0)
  show Go _ _ _ _ _ (mkF _ _ _ [.ref b9])
  refine G13 X10 K rfl rfl rfl d5_50 (by decide) (by decide) ?_
  have f14 := (f12.keep Kc10 (so11.nin 9 [2] rfl rfl rfl))
  have f15 := ((((g3.keep Kc4 (so11.nin 8 [10] rfl rfl rfl)).keep kb3 (so11.nin 8 [10, 7] rfl rfl rfl)).ext E9).keep Kc10 (so11.nin 8 [2] rfl rfl rfl))
  have f16 := (f11.keep Kc10 (so11.nin 6 [2] rfl rfl rfl))
  have f17 := ((((f4.keep Kc7 nin0).keep Kc8 (so11.nin 5 [10, 7] rfl rfl rfl)).ext E9).keep Kc10 (so11.nin 5 [2] rfl rfl rfl))
  have f18 := (f10.keep Kc10 (so11.nin 4 [2] rfl rfl rfl))
  have f19 := ((f7.ext E9).keep Kc10 (so11.nin 3 [2] rfl rfl rfl))
  exact ⟨bx1, bx2, bx4, bx5, bx6, bx7, b9, bx8, bx9, kB1, kB3, kB4, kB5, rfl, N10, Kp10, szbx1, lz3_1, (so11.lt 6 8 rfl rfl rfl), lz5_1, lkbx6, lz7_1, lk9, lkbx8, lz10_1, f14, f15, f16, f17, f18, f19, g16, g17, g18, g19, g20⟩
theorem rm11_39 (H : Hyp Z a0) (a1 a2 a3 a4 : Addr) (Ol0 : Old Z (ζ Z) h0) (B_1 : Ω0 Z h0 a1 (.int 1) (.ref (ad1 Z a0)) (.int 0)) (ge_1 : (ζ Z) ≤ a1) (B_2 : Ω2 Z h0 a2 (.ref a3) (.ref a4)) (ne_1 : a2 ≠ a1) :
    Mt l Z M10 C15 4 none [] ⟨3, 1, 10, 41⟩ #[.ref a1, .ref a2, (.ref (ad1 Z a0)), .int 0] h0 (fun v h L => (∃ (bx1 : Addr) (kB1 : ClassId), v = none ∧ Fr (ζ Z) L ∧ Keep h0 h [a1] ∧ h0.size ≤ bx1 ∧ Ω0 Z h a1 (.int 1) (.ref bx1) (.int 1) ∧ Arv Z h bx1 kB1 (.object Q3) 10 [.ref a2, .null, .null, .null, .null, .null, .null, .null, .null, .null] .null ∧ Exa Z h bx1 Q7 ∧ Ovr Z kB1 Q3)) := by
  refine g_be (pf pn12) (ef_5 a1 a2 (ad1 Z a0)) fun T0 K X0 e0 => ?_
  have nw_a2 : a2 ∉ [a1] := (ninS ne_1 nin0)
  refine G1 X0 K d11_0 rfl ?_
  refine G0 X0 K d11_1 rfl rfl ?_
  refine G21 X0 K e0 ((v1 H).ext Ol0.2) d11_2 ?_
  refine G10 X0 K d11_3 (by decide) ?_
  refine G0 X0 K d11_6 rfl rfl ?_
  refine G25 X0 K (W := 0) (tw H 72 rfl) (tw H 74 rfl) (tw H 75 rfl) (tw H 73 rfl) (w3 H) (tw H 76 rfl) (by decide) (rm12_10 H a1 Ol0 B_1 ge_1) e0 B_1.1 rfl rfl rfl (lenOf pd_7 rfl) rfl d11_7 (by decide) ?_
  rintro T1 v1 L1 X1 ⟨bx1, kB1, rfl, N1q, Kc1, lz1_0, g1, g2, g3, g4⟩
  have szbx1 := Nat.le_trans (Keep.refl h0 [a1]).1 lz1_0
  have gebx1 := Nat.le_trans Ol0.2.1 lz1_0
  have so1 := Sd.one bx1
  obtain ⟨N1, Ol1, Kp1⟩ := ivK (Fr.nil _) Ol0 (Keep.refl h0 [a1]) N1q Kc1 (allS ge_1 all0) (kaS (ow 0 rfl) all0)
  show Go _ _ _ _ _ (mkF _ _ _ [.ref bx1])
  refine G38 X1 K (L' := #[vr a1, vr a2, vr bx1, vi 0]) d11_10 rfl rfl ?_
  refine G0 X1 K d11_11 rfl rfl ?_
  refine G1 X1 K d11_12 rfl ?_
  refine G0 X1 K d11_13 rfl rfl ?_
  have f1 := B_2.keep Kp1 nw_a2
  refine G32 X1 K (vs' := [.ref a2, .null, .null, .null, .null, .null, .null, .null, .null, .null]) rfl g2 (Or.inr ⟨_, rfl, g4, (Ins.of_exa f1.1 (tw H 200 rfl))⟩) (by decide) (Nat.le_of_ble_eq_true rfl) rfl d11_14 ?_
  intro T2 h2 X2 e2 W2 F2
  obtain ⟨N2, Ol2, Kp2⟩ := ivW N1 Ol1 Kp1 X2 W2 gebx1 (Or.inr szbx1)
  refine G0 X2 K d11_15 rfl rfl ?_
  refine G1 X2 K d11_16 rfl ?_
  refine G3 X2 K (v := 1) d11_17 (by decide) ?_
  refine G16 X2 K d11_18 (z := 1) (by decide) ?_
  have ne1 : a1 ≠ bx1 := (Nat.ne_of_lt (Nat.lt_of_lt_of_le B_1.lt szbx1))
  have f2 := (g1.other W2 ne1)
  refine G5 X2 K (w65 H) Via.refl e2 f2.2.2.2 f2.1 (Or.inl (w66 H)) (w2 H) (ty := .int) (by decide) rfl rfl d11_19 ?_
  intro T3 h3 X3 e3 W3 F3
  obtain ⟨N3, Ol3, Kp3⟩ := ivW N2 Ol2 Kp2 X3 W3 ge_1 (ow 0 rfl)
  have O3 := Ω0.s2 H f2 W3
  refine G17 X3 K d11_22 (by decide) (by decide) ?_
  have Kp : Keep h0 T3.heap [a1] := by rw [e3]; exact Kp3
  have f3 := (F2.other W3 (Ne.symm ne1))
  have f4 := ((g3.wr W2).wr W3)
  exact ⟨bx1, kB1, rfl, N3, Kp, szbx1, (by rw [e3]; exact O3), (by rw [e3]; exact f3), (by rw [e3]; exact f4), g4⟩
theorem rm10_40 (H : Hyp Z a0) (a1 a2 a3 a4 : Addr) (Ol0 : Old Z (ζ Z) h0) (B_1 : Ω0 Z h0 a1 (.int 0) (.ref (ad1 Z a0)) (.int 0)) (ge_1 : (ζ Z) ≤ a1) (B_2 : Ω2 Z h0 a2 (.ref a3) (.ref a4)) (ne_1 : a2 ≠ a1) :
    Mt l Z M9 C16 2 (some .boolean) [] ⟨4, 1, 10, 56⟩ #[.ref a1, .ref a2] h0 (fun v h L => (∃ (bx1 : Addr) (kB1 : ClassId), v = some (.int 1) ∧ Fr (ζ Z) L ∧ Keep h0 h [a1] ∧ h0.size ≤ bx1 ∧ Ω0 Z h a1 (.int 1) (.ref bx1) (.int 1) ∧ Arv Z h bx1 kB1 (.object Q3) 10 [.ref a2, .null, .null, .null, .null, .null, .null, .null, .null, .null] .null ∧ Exa Z h bx1 Q7 ∧ Ovr Z kB1 Q3)) := by
  refine g_be (pf pn12) (ef_6 a1 a2) fun T0 K X0 e0 => ?_
  have nw_a2 : a2 ∉ [a1] := (ninS ne_1 nin0)
  refine G0 X0 K d10_0 rfl rfl ?_
  refine G9 X0 K d10_1 rfl ?_
  refine G2 X0 K (w63 H) (Via.of (w64 H)) e0 B_1.2.1 d10_2 ?_
  intro T1 X1 e1
  refine G3 X1 K (v := 1) d10_5 (by decide) ?_
  refine G16 X1 K d10_6 (z := 1) (by decide) ?_
  refine G5 X1 K (w63 H) (Via.of (w64 H)) e1 B_1.2.1 B_1.1 (Or.inl (w23 H)) (w2 H) (ty := .int) (by decide) rfl rfl d10_7 ?_
  intro T2 h2 X2 e2 W2 F2
  obtain ⟨N2, Ol2, Kp2⟩ := ivW (Fr.nil _) Ol0 (Keep.refl h0 [a1]) X2 W2 ge_1 (ow 0 rfl)
  have O2 := Ω0.s0 H B_1 W2
  refine G0 X2 K d10_10 rfl rfl ?_
  refine G0 X2 K d10_11 rfl rfl ?_
  refine G0 X2 K d10_12 rfl rfl ?_
  refine G2 X2 K (w25 H) Via.refl e2 O2.2.2.1 d10_13 ?_
  intro T3 X3 e3
  refine G0 X3 K d10_16 rfl rfl ?_
  refine G2 X3 K (w65 H) Via.refl e3 O2.2.2.2 d10_17 ?_
  intro T4 X4 e4
  have f1 := B_2.keep Kp2 nw_a2
  refine G25 X4 K (W := 0) (w67 H) (w69 H) (w70 H) (w68 H) (w3 H) (w71 H) (by decide) (rm11_39 H a1 a2 a3 a4 Ol2 O2 ge_1 f1 ne_1) e4 O2.1 rfl rfl rfl (lenOf pd_8 rfl) rfl d10_20 (by decide) ?_
  rintro T5 v5 L5 X5 ⟨bx1, kB1, rfl, N5q, Kc5, lz5_0, g1, g2, g3, g4⟩
  have szbx1 := Nat.le_trans Kp2.1 lz5_0
  have gebx1 := Nat.le_trans Ol2.2.1 lz5_0
  have so1 := Sd.one bx1
  obtain ⟨N5, Ol5, Kp5⟩ := ivK N2 Ol2 Kp2 N5q Kc5 (allS ge_1 all0) (kaS (ow 0 rfl) all0)
  show Go _ _ _ _ _ (mkF _ _ _ [])
  refine G3 X5 K (v := 1) d10_23 (by decide) ?_
  refine G31 X5 K (by simp) (z' := 1) (by decide) d10_24 (by decide) (by decide) ?_
  exact ⟨bx1, kB1, rfl, N5, Kp5, szbx1, g1, g2, g3, g4⟩
theorem rm7_41 (H : Hyp Z a0) (Ol0 : Old Z (ζ Z) h0) :
    Mt l Z M6 C41 1 (some .boolean) [] ⟨0, 0, 0, 0⟩ #[.int 100] h0 (fun v h L => (v = some (.int 1) ∧ Fr (ζ Z) L ∧ h = h0)) := by
  refine g_be (pf pn8) ef_18 fun T0 K X0 e0 => ?_
  refine G1 X0 K d7_0 rfl ?_
  refine G34 X0 K (v := 255) d7_1 (by decide) ?_
  refine G10 X0 K d7_4 (by decide) ?_
  refine G3 X0 K (v := 1) d7_7 (by decide) ?_
  refine G6 12 X0 K d7_8 (by decide) (by decide) ?_
  refine G31 X0 K (by simp) (z' := 1) (by decide) d7_12 (by decide) (by decide) ?_
  exact ⟨rfl, (Fr.nil _), e0⟩
theorem rm8_42 (H : Hyp Z a0) (Ol0 : Old Z (ζ Z) h0) :
    Mt l Z M7 C35 1 (some (.array .byte)) [] ⟨0, 1, 1, 0⟩ #[.int 100] h0 (fun v h L => (∃ (b1 : Addr) (kA1 : ClassId), v = some (.ref b1) ∧ Fr (ζ Z) L ∧ Keep h0 h [] ∧ h0.size ≤ b1 ∧ Arv Z h b1 kA1 .byte 1 [.int 100] (.int 0))) := by
  refine g_be (pf pn8) ef_18 fun T0 K X0 e0 => ?_
  refine G3 X0 K (v := 1) d8_0 (by decide) ?_
  refine G35 X0 K (cap := 1) (ty := .byte) (vs := [.int 0]) (w30 H) rfl e0 d8_1 (by decide) (by decide) rfl (by decide) (by decide) (by decide) ?_
  intro T1 h1 b1 kA1 X1 e1 E1 z1 A1
  obtain ⟨sz1, ge1, Ol1, Kp1⟩ := ivE Ol0 (Keep.refl h0 []) E1 z1
  have so1 := Sd.one b1
  refine G9 X1 K d8_3 rfl ?_
  refine G3 X1 K (v := 0) d8_4 (by decide) ?_
  refine G1 X1 K d8_5 rfl ?_
  refine G53 X1 K d8_6 (z := 100) (by decide) ?_
  refine G49 X1 K (z := 100) (vs' := [.int 100]) e1 A1 (by decide) (Nat.le_of_ble_eq_true rfl) (by decide) rfl d8_7 ?_
  intro T2 h2 X2 e2 W2 F2
  obtain ⟨N2, Ol2, Kp2⟩ := ivW (Fr.nil _) Ol1 Kp1 X2 W2 ge1 (Or.inr sz1)
  refine G13 X2 K rfl rfl rfl d8_8 (by decide) (by decide) ?_
  have Kp : Keep h0 T2.heap [] := by rw [e2]; exact Kp2
  exact ⟨b1, kA1, rfl, N2, Kp, sz1, (by rw [e2]; exact F2)⟩
theorem rm6_43 (H : Hyp Z a0) (Ol0 : Old Z (ζ Z) h0) :
    Mt l Z M5 C20 1 (some (.object Q10)) [] ⟨2, 2, 5, 27⟩ #[.int 100] h0 (fun v h L => (∃ (b3 bx1 : Addr) (kB1 : ClassId), v = some (.ref b3) ∧ Fr (ζ Z) L ∧ Keep h0 h [] ∧ h0.size ≤ b3 ∧ b3 < bx1 ∧ Ω1 Z h b3 (.ref bx1) (.int 0) (.int 0) (.int 0) ∧ Arv Z h bx1 kB1 .byte 1 [.int 100] (.int 0))) := by
  refine g_be (pf pn7) ef_18 fun T0 K X0 e0 => ?_
  refine G33 X0 K (w42 H) e0 ((ivs0 H).ext Ol0.2) d6_0 ?_
  intro T1 X1 e1
  refine G11 X1 K d6_3 (feq (ivn0 H)).1 ?_
  refine G1 X1 K d6_6 rfl ?_
  refine G14 X1 K (W := 0) (w43 H) (w44 H) (w45 H) (w46 H) (by decide) (rm7_41 H Ol0) e1 rfl rfl rfl (lenOf pd_1 rfl) rfl d6_7 (by decide) ?_
  rintro T2 v2 L2 X2 ⟨rfl, N2q, e2⟩
  have N2 := Fr.app (Fr.nil _) N2q
  show Go _ _ _ _ _ (mkF _ _ _ [.int 1])
  refine G11 X2 K d6_10 (by decide) ?_
  refine G27 X2 K (w47 H) (w29 H) (w28 H) e2 d6_13 (by decide) (by decide) ?_
  intro T3 h3 b3 X3 e3 E3 z3 A3 D3
  obtain ⟨sz3, ge3, Ol3, Kp3⟩ := ivE Ol0 (Keep.refl h0 []) E3 z3
  have so1 := Sd.one b3
  have O3 := Ω1.new H A3 D3
  refine G9 X3 K d6_16 rfl ?_
  refine G1 X3 K d6_17 rfl ?_
  refine G14 X3 K (W := 2) (w48 H) (w49 H) (w45 H) (w50 H) (by decide) (rm8_42 H Ol3) e3 rfl rfl rfl (lenOf pd_2 rfl) rfl d6_18 (by decide) ?_
  rintro T4 v4 L4 X4 ⟨bx1, kB1, rfl, N4q, Kc4, lz4_0, g1⟩
  have szbx1 := Nat.le_trans Kp3.1 lz4_0
  have gebx1 := Nat.le_trans Ol3.2.1 lz4_0
  have lkbx1 : b3 < bx1 := Nat.lt_of_lt_of_le O3.lt lz4_0
  have so2 := so1.cons lkbx1
  obtain ⟨N4, Ol4, Kp4⟩ := ivK N2 Ol3 Kp3 N4q Kc4 all0 all0
  show Go _ _ _ _ _ (mkF _ _ _ [.ref bx1, .ref b3, .ref b3])
  refine G3 X4 K (v := 0) d6_21 (by decide) ?_
  have f1 := (O3.keep Kc4 nin0)
  refine G23 X4 K (W := 1) rfl (w51 H) (w52 H) (w28 H) (w54 H) (by decide) (rm9_6 H b3 bx1 Ol4 f1 ge3) rfl rfl rfl rfl (lenOf pd_3 rfl) rfl d6_22 (by decide) ?_
  rintro T5 v5 L5 X5 ⟨rfl, N5q, Kc5, g2⟩
  obtain ⟨N5, Ol5, Kp5⟩ := ivK N4 Ol4 Kp4 N5q Kc5 (allS ge3 all0) (kaS (Or.inr sz3) all0)
  show Go _ _ _ _ _ (mkF _ _ _ [.ref b3])
  refine G13 X5 K rfl rfl rfl d6_25 (by decide) (by decide) ?_
  have f2 := (g1.keep Kc5 (so2.nin 0 [1] rfl rfl rfl))
  exact ⟨b3, bx1, kB1, rfl, N5, Kp5, sz3, lkbx1, g2, f2⟩
theorem rm7_44 (H : Hyp Z a0) (Ol0 : Old Z (ζ Z) h0) :
    Mt l Z M6 C41 1 (some .boolean) [] ⟨0, 0, 0, 0⟩ #[.int 101] h0 (fun v h L => (v = some (.int 1) ∧ Fr (ζ Z) L ∧ h = h0)) := by
  refine g_be (pf pn8) ef_19 fun T0 K X0 e0 => ?_
  refine G1 X0 K d7_0 rfl ?_
  refine G34 X0 K (v := 255) d7_1 (by decide) ?_
  refine G10 X0 K d7_4 (by decide) ?_
  refine G3 X0 K (v := 1) d7_7 (by decide) ?_
  refine G6 12 X0 K d7_8 (by decide) (by decide) ?_
  refine G31 X0 K (by simp) (z' := 1) (by decide) d7_12 (by decide) (by decide) ?_
  exact ⟨rfl, (Fr.nil _), e0⟩
theorem rm8_45 (H : Hyp Z a0) (Ol0 : Old Z (ζ Z) h0) :
    Mt l Z M7 C35 1 (some (.array .byte)) [] ⟨0, 1, 1, 0⟩ #[.int 101] h0 (fun v h L => (∃ (b1 : Addr) (kA1 : ClassId), v = some (.ref b1) ∧ Fr (ζ Z) L ∧ Keep h0 h [] ∧ h0.size ≤ b1 ∧ Arv Z h b1 kA1 .byte 1 [.int 101] (.int 0))) := by
  refine g_be (pf pn8) ef_19 fun T0 K X0 e0 => ?_
  refine G3 X0 K (v := 1) d8_0 (by decide) ?_
  refine G35 X0 K (cap := 1) (ty := .byte) (vs := [.int 0]) (w30 H) rfl e0 d8_1 (by decide) (by decide) rfl (by decide) (by decide) (by decide) ?_
  intro T1 h1 b1 kA1 X1 e1 E1 z1 A1
  obtain ⟨sz1, ge1, Ol1, Kp1⟩ := ivE Ol0 (Keep.refl h0 []) E1 z1
  have so1 := Sd.one b1
  refine G9 X1 K d8_3 rfl ?_
  refine G3 X1 K (v := 0) d8_4 (by decide) ?_
  refine G1 X1 K d8_5 rfl ?_
  refine G53 X1 K d8_6 (z := 101) (by decide) ?_
  refine G49 X1 K (z := 101) (vs' := [.int 101]) e1 A1 (by decide) (Nat.le_of_ble_eq_true rfl) (by decide) rfl d8_7 ?_
  intro T2 h2 X2 e2 W2 F2
  obtain ⟨N2, Ol2, Kp2⟩ := ivW (Fr.nil _) Ol1 Kp1 X2 W2 ge1 (Or.inr sz1)
  refine G13 X2 K rfl rfl rfl d8_8 (by decide) (by decide) ?_
  have Kp : Keep h0 T2.heap [] := by rw [e2]; exact Kp2
  exact ⟨b1, kA1, rfl, N2, Kp, sz1, (by rw [e2]; exact F2)⟩
theorem rm6_46 (H : Hyp Z a0) (Ol0 : Old Z (ζ Z) h0) :
    Mt l Z M5 C20 1 (some (.object Q10)) [] ⟨2, 2, 5, 27⟩ #[.int 101] h0 (fun v h L => (∃ (b3 bx1 : Addr) (kB1 : ClassId), v = some (.ref b3) ∧ Fr (ζ Z) L ∧ Keep h0 h [] ∧ h0.size ≤ b3 ∧ b3 < bx1 ∧ Ω1 Z h b3 (.ref bx1) (.int 0) (.int 0) (.int 0) ∧ Arv Z h bx1 kB1 .byte 1 [.int 101] (.int 0))) := by
  refine g_be (pf pn7) ef_19 fun T0 K X0 e0 => ?_
  refine G33 X0 K (w42 H) e0 ((ivs0 H).ext Ol0.2) d6_0 ?_
  intro T1 X1 e1
  refine G11 X1 K d6_3 (feq (ivn0 H)).1 ?_
  refine G1 X1 K d6_6 rfl ?_
  refine G14 X1 K (W := 0) (w43 H) (w44 H) (w45 H) (w46 H) (by decide) (rm7_44 H Ol0) e1 rfl rfl rfl (lenOf pd_1 rfl) rfl d6_7 (by decide) ?_
  rintro T2 v2 L2 X2 ⟨rfl, N2q, e2⟩
  have N2 := Fr.app (Fr.nil _) N2q
  show Go _ _ _ _ _ (mkF _ _ _ [.int 1])
  refine G11 X2 K d6_10 (by decide) ?_
  refine G27 X2 K (w47 H) (w29 H) (w28 H) e2 d6_13 (by decide) (by decide) ?_
  intro T3 h3 b3 X3 e3 E3 z3 A3 D3
  obtain ⟨sz3, ge3, Ol3, Kp3⟩ := ivE Ol0 (Keep.refl h0 []) E3 z3
  have so1 := Sd.one b3
  have O3 := Ω1.new H A3 D3
  refine G9 X3 K d6_16 rfl ?_
  refine G1 X3 K d6_17 rfl ?_
  refine G14 X3 K (W := 2) (w48 H) (w49 H) (w45 H) (w50 H) (by decide) (rm8_45 H Ol3) e3 rfl rfl rfl (lenOf pd_2 rfl) rfl d6_18 (by decide) ?_
  rintro T4 v4 L4 X4 ⟨bx1, kB1, rfl, N4q, Kc4, lz4_0, g1⟩
  have szbx1 := Nat.le_trans Kp3.1 lz4_0
  have gebx1 := Nat.le_trans Ol3.2.1 lz4_0
  have lkbx1 : b3 < bx1 := Nat.lt_of_lt_of_le O3.lt lz4_0
  have so2 := so1.cons lkbx1
  obtain ⟨N4, Ol4, Kp4⟩ := ivK N2 Ol3 Kp3 N4q Kc4 all0 all0
  show Go _ _ _ _ _ (mkF _ _ _ [.ref bx1, .ref b3, .ref b3])
  refine G3 X4 K (v := 0) d6_21 (by decide) ?_
  have f1 := (O3.keep Kc4 nin0)
  refine G23 X4 K (W := 1) rfl (w51 H) (w52 H) (w28 H) (w54 H) (by decide) (rm9_6 H b3 bx1 Ol4 f1 ge3) rfl rfl rfl rfl (lenOf pd_3 rfl) rfl d6_22 (by decide) ?_
  rintro T5 v5 L5 X5 ⟨rfl, N5q, Kc5, g2⟩
  obtain ⟨N5, Ol5, Kp5⟩ := ivK N4 Ol4 Kp4 N5q Kc5 (allS ge3 all0) (kaS (Or.inr sz3) all0)
  show Go _ _ _ _ _ (mkF _ _ _ [.ref b3])
  refine G13 X5 K rfl rfl rfl d6_25 (by decide) (by decide) ?_
  have f2 := (g1.keep Kc5 (so2.nin 0 [1] rfl rfl rfl))
  exact ⟨b3, bx1, kB1, rfl, N5, Kp5, sz3, lkbx1, g2, f2⟩
theorem rm7_47 (H : Hyp Z a0) (Ol0 : Old Z (ζ Z) h0) :
    Mt l Z M6 C41 1 (some .boolean) [] ⟨0, 0, 0, 0⟩ #[.int 102] h0 (fun v h L => (v = some (.int 1) ∧ Fr (ζ Z) L ∧ h = h0)) := by
  refine g_be (pf pn8) ef_20 fun T0 K X0 e0 => ?_
  refine G1 X0 K d7_0 rfl ?_
  refine G34 X0 K (v := 255) d7_1 (by decide) ?_
  refine G10 X0 K d7_4 (by decide) ?_
  refine G3 X0 K (v := 1) d7_7 (by decide) ?_
  refine G6 12 X0 K d7_8 (by decide) (by decide) ?_
  refine G31 X0 K (by simp) (z' := 1) (by decide) d7_12 (by decide) (by decide) ?_
  exact ⟨rfl, (Fr.nil _), e0⟩
theorem rm8_48 (H : Hyp Z a0) (Ol0 : Old Z (ζ Z) h0) :
    Mt l Z M7 C35 1 (some (.array .byte)) [] ⟨0, 1, 1, 0⟩ #[.int 102] h0 (fun v h L => (∃ (b1 : Addr) (kA1 : ClassId), v = some (.ref b1) ∧ Fr (ζ Z) L ∧ Keep h0 h [] ∧ h0.size ≤ b1 ∧ Arv Z h b1 kA1 .byte 1 [.int 102] (.int 0))) := by
  refine g_be (pf pn8) ef_20 fun T0 K X0 e0 => ?_
  refine G3 X0 K (v := 1) d8_0 (by decide) ?_
  refine G35 X0 K (cap := 1) (ty := .byte) (vs := [.int 0]) (w30 H) rfl e0 d8_1 (by decide) (by decide) rfl (by decide) (by decide) (by decide) ?_
  intro T1 h1 b1 kA1 X1 e1 E1 z1 A1
  obtain ⟨sz1, ge1, Ol1, Kp1⟩ := ivE Ol0 (Keep.refl h0 []) E1 z1
  have so1 := Sd.one b1
  refine G9 X1 K d8_3 rfl ?_
  refine G3 X1 K (v := 0) d8_4 (by decide) ?_
  refine G1 X1 K d8_5 rfl ?_
  refine G53 X1 K d8_6 (z := 102) (by decide) ?_
  refine G49 X1 K (z := 102) (vs' := [.int 102]) e1 A1 (by decide) (Nat.le_of_ble_eq_true rfl) (by decide) rfl d8_7 ?_
  intro T2 h2 X2 e2 W2 F2
  obtain ⟨N2, Ol2, Kp2⟩ := ivW (Fr.nil _) Ol1 Kp1 X2 W2 ge1 (Or.inr sz1)
  refine G13 X2 K rfl rfl rfl d8_8 (by decide) (by decide) ?_
  have Kp : Keep h0 T2.heap [] := by rw [e2]; exact Kp2
  exact ⟨b1, kA1, rfl, N2, Kp, sz1, (by rw [e2]; exact F2)⟩
theorem rm6_49 (H : Hyp Z a0) (Ol0 : Old Z (ζ Z) h0) :
    Mt l Z M5 C20 1 (some (.object Q10)) [] ⟨2, 2, 5, 27⟩ #[.int 102] h0 (fun v h L => (∃ (b3 bx1 : Addr) (kB1 : ClassId), v = some (.ref b3) ∧ Fr (ζ Z) L ∧ Keep h0 h [] ∧ h0.size ≤ b3 ∧ b3 < bx1 ∧ Ω1 Z h b3 (.ref bx1) (.int 0) (.int 0) (.int 0) ∧ Arv Z h bx1 kB1 .byte 1 [.int 102] (.int 0))) := by
  refine g_be (pf pn7) ef_20 fun T0 K X0 e0 => ?_
  refine G33 X0 K (w42 H) e0 ((ivs0 H).ext Ol0.2) d6_0 ?_
  intro T1 X1 e1
  refine G11 X1 K d6_3 (feq (ivn0 H)).1 ?_
  refine G1 X1 K d6_6 rfl ?_
  refine G14 X1 K (W := 0) (w43 H) (w44 H) (w45 H) (w46 H) (by decide) (rm7_47 H Ol0) e1 rfl rfl rfl (lenOf pd_1 rfl) rfl d6_7 (by decide) ?_
  rintro T2 v2 L2 X2 ⟨rfl, N2q, e2⟩
  have N2 := Fr.app (Fr.nil _) N2q
  show Go _ _ _ _ _ (mkF _ _ _ [.int 1])
  refine G11 X2 K d6_10 (by decide) ?_
  refine G27 X2 K (w47 H) (w29 H) (w28 H) e2 d6_13 (by decide) (by decide) ?_
  intro T3 h3 b3 X3 e3 E3 z3 A3 D3
  obtain ⟨sz3, ge3, Ol3, Kp3⟩ := ivE Ol0 (Keep.refl h0 []) E3 z3
  have so1 := Sd.one b3
  have O3 := Ω1.new H A3 D3
  refine G9 X3 K d6_16 rfl ?_
  refine G1 X3 K d6_17 rfl ?_
  refine G14 X3 K (W := 2) (w48 H) (w49 H) (w45 H) (w50 H) (by decide) (rm8_48 H Ol3) e3 rfl rfl rfl (lenOf pd_2 rfl) rfl d6_18 (by decide) ?_
  rintro T4 v4 L4 X4 ⟨bx1, kB1, rfl, N4q, Kc4, lz4_0, g1⟩
  have szbx1 := Nat.le_trans Kp3.1 lz4_0
  have gebx1 := Nat.le_trans Ol3.2.1 lz4_0
  have lkbx1 : b3 < bx1 := Nat.lt_of_lt_of_le O3.lt lz4_0
  have so2 := so1.cons lkbx1
  obtain ⟨N4, Ol4, Kp4⟩ := ivK N2 Ol3 Kp3 N4q Kc4 all0 all0
  show Go _ _ _ _ _ (mkF _ _ _ [.ref bx1, .ref b3, .ref b3])
  refine G3 X4 K (v := 0) d6_21 (by decide) ?_
  have f1 := (O3.keep Kc4 nin0)
  refine G23 X4 K (W := 1) rfl (w51 H) (w52 H) (w28 H) (w54 H) (by decide) (rm9_6 H b3 bx1 Ol4 f1 ge3) rfl rfl rfl rfl (lenOf pd_3 rfl) rfl d6_22 (by decide) ?_
  rintro T5 v5 L5 X5 ⟨rfl, N5q, Kc5, g2⟩
  obtain ⟨N5, Ol5, Kp5⟩ := ivK N4 Ol4 Kp4 N5q Kc5 (allS ge3 all0) (kaS (Or.inr sz3) all0)
  show Go _ _ _ _ _ (mkF _ _ _ [.ref b3])
  refine G13 X5 K rfl rfl rfl d6_25 (by decide) (by decide) ?_
  have f2 := (g1.keep Kc5 (so2.nin 0 [1] rfl rfl rfl))
  exact ⟨b3, bx1, kB1, rfl, N5, Kp5, sz3, lkbx1, g2, f2⟩
theorem rm5_50 (H : Hyp Z a0) (a1 : Addr) (Ol0 : Old Z (ζ Z) h0) :
    Mt l Z M4 method_2_code 3 (some (.object Q11)) [] ⟨10, 12, 38, 130⟩ #[.ref a1, .int 100] h0 (fun v h L => (∃ (bx1 bx2 bx4 bx5 bx6 bx7 b9 bx8 bx9 : Addr) (kB1 kB3 kB4 kB5 : ClassId), v = some (.ref b9) ∧ Fr (ζ Z) L ∧ Keep h0 h [] ∧ h0.size ≤ bx1 ∧ bx1 < bx2 ∧ bx2 < bx4 ∧ bx4 < bx5 ∧ bx5 < bx6 ∧ bx6 < bx7 ∧ bx7 < b9 ∧ b9 < bx8 ∧ bx8 < bx9 ∧ Ω1 Z h bx1 (.ref bx2) (.int 0) (.int 0) (.int 0) ∧ Arv Z h bx2 kB1 .byte 1 [.int 100] (.int 0) ∧ Ω1 Z h bx4 (.ref bx5) (.int 0) (.int 0) (.int 0) ∧ Arv Z h bx5 kB3 .byte 1 [.int 101] (.int 0) ∧ Ω1 Z h bx6 (.ref bx7) (.int 0) (.int 0) (.int 0) ∧ Arv Z h bx7 kB4 .byte 1 [.int 102] (.int 0) ∧ Ω2 Z h b9 (.ref a1) (.ref bx9) ∧ Arv Z h bx8 kB5 (.object Q3) 3 [.ref bx1, .ref bx4, .ref bx6] .null ∧ Exa Z h bx8 Q7 ∧ Ovr Z kB5 Q3 ∧ Ω3 Z h bx9 (.ref bx8) (.int 0))) := by
  refine g_be (pf pn2) (ef_21 a1) fun T0 K X0 e0 => ?_
  refine G27 X0 K (tw H 1 rfl) (w2 H) (w3 H) e0 d5_0 (by decide) (by decide) ?_
  intro T1 h1 b1 X1 e1 E1 z1 A1 D1
  obtain ⟨sz1, ge1, Ol1, Kp1⟩ := ivE Ol0 (Keep.refl h0 []) E1 z1
  have so1 := Sd.one b1
  have O1 := Ω0.new H A1 D1
  refine G9 X1 K d5_3 rfl ?_
  refine G23 X1 K (W := 1) rfl (tw H 4 rfl) (tw H 5 rfl) (w3 H) (tw H 6 rfl) (by decide) (rm1_3 H b1 Ol1 O1 ge1) e1 rfl rfl rfl (lenOf pd_0 rfl) rfl d5_4 (by decide) ?_
  rintro T2 v2 L2 X2 ⟨rfl, N2q, Kc2, g1⟩
  obtain ⟨N2, Ol2, Kp2⟩ := ivK (Fr.nil _) Ol1 Kp1 N2q Kc2 (allS ge1 all0) (kaS (Or.inr sz1) all0)
  show Go _ _ _ _ _ (mkF _ _ _ [.ref b1])
  refine G38 X2 K (L' := #[vr a1, vi 100, vr b1]) d5_7 rfl rfl ?_
  refine G0 X2 K d5_8 rfl rfl ?_
  refine G1 X2 K d5_9 rfl ?_
  refine G14 X2 K (W := 1) (w39 H) (w40 H) (w28 H) (w41 H) (by decide) (rm6_43 H Ol2) rfl rfl rfl rfl (lenOf pd_4 rfl) rfl d5_10 (by decide) ?_
  rintro T3 v3 L3 X3 ⟨bx1, bx2, kB1, rfl, N3q, Kc3, lz3_0, lz3_1, g2, g3⟩
  have szbx1 := Nat.le_trans Kp2.1 lz3_0
  have gebx1 := Nat.le_trans Ol2.2.1 lz3_0
  have lkbx1 : b1 < bx1 := Nat.lt_of_lt_of_le g1.lt lz3_0
  have so2 := so1.cons lkbx1
  have szbx2 := Nat.le_trans szbx1 (Nat.le_of_lt lz3_1)
  have gebx2 := Nat.le_trans gebx1 (Nat.le_of_lt lz3_1)
  have so3 := so2.cons lz3_1
  obtain ⟨N3, Ol3, Kp3⟩ := ivK N2 Ol2 Kp2 N3q Kc3 all0 all0
  show Go _ _ _ _ _ (mkF _ _ _ [.ref bx1, .ref b1])
  have f1 := (g1.keep Kc3 nin0)
  have ne1 := so3.ne 1 2 rfl rfl rfl
  refine G8 X3 K (W := 0) (w58 H) (w59 H) (nf_self K (w61 H)) (w61 H) (w60 H) (w3 H) (w62 H) (by decide) (rm10_12 H b1 bx1 bx2 Ol3 f1 ge1 g2 ne1) rfl f1.1 rfl rfl rfl (lenOf pd_9 rfl) rfl d5_13 (by decide) ?_
  rintro T4 v4 L4 X4 ⟨bx3, kB2, rfl, N4q, Kc4, lz4_0, g4, g5, g6, g7⟩
  have szbx3 := Nat.le_trans Kp3.1 lz4_0
  have gebx3 := Nat.le_trans Ol3.2.1 lz4_0
  have lkbx3 : bx2 < bx3 := Nat.lt_of_lt_of_le g3.lt lz4_0
  have so4 := so3.cons lkbx3
  obtain ⟨N4, Ol4, Kp4⟩ := ivK N3 Ol3 Kp3 N4q Kc4 (allS ge1 all0) (kaS (Or.inr sz1) all0)
  show Go _ _ _ _ _ (mkF _ _ _ [.int 1])
  refine G37 X4 K d5_16 rfl ?_
  refine G0 X4 K d5_17 rfl rfl ?_
  refine G1 X4 K d5_18 rfl ?_
  refine G3 X4 K (v := 1) d5_19 (by decide) ?_
  refine G16 X4 K d5_20 (z := 101) (by decide) ?_
  refine G66 X4 K d5_21 (z := 101) (by decide) ?_
  refine G14 X4 K (W := 1) (w39 H) (w40 H) (w28 H) (w41 H) (by decide) (rm6_46 H Ol4) rfl rfl rfl rfl (lenOf pd_4 rfl) rfl d5_22 (by decide) ?_
  rintro T5 v5 L5 X5 ⟨bx4, bx5, kB3, rfl, N5q, Kc5, lz5_0, lz5_1, g8, g9⟩
  have szbx4 := Nat.le_trans Kp4.1 lz5_0
  have gebx4 := Nat.le_trans Ol4.2.1 lz5_0
  have lkbx4 : bx3 < bx4 := Nat.lt_of_lt_of_le g5.lt lz5_0
  have so5 := so4.cons lkbx4
  have szbx5 := Nat.le_trans szbx4 (Nat.le_of_lt lz5_1)
  have gebx5 := Nat.le_trans gebx4 (Nat.le_of_lt lz5_1)
  have so6 := so5.cons lz5_1
  obtain ⟨N5, Ol5, Kp5⟩ := ivK N4 Ol4 Kp4 N5q Kc5 all0 all0
  show Go _ _ _ _ _ (mkF _ _ _ [.ref bx4, .ref b1])
  have f2 := (g4.keep Kc5 nin0)
  have f3 := (g5.keep Kc5 nin0)
  have ne2 := so6.ne 2 5 rfl rfl rfl
  have ne3 := so6.ne 1 2 rfl rfl rfl
  have ne4 := so6.ne 1 5 rfl rfl rfl
  refine G8 X5 K (W := 0) (w58 H) (w59 H) (nf_self K (w61 H)) (w61 H) (w60 H) (w3 H) (w62 H) (by decide) (rm10_17 H b1 bx4 bx3 bx1 kB2 bx5 Ol5 f2 ge1 f3 g8 ne2 g7 gebx3 (Ne.symm ne2) ne3 ne4) rfl f2.1 rfl rfl rfl (lenOf pd_9 rfl) rfl d5_25 (by decide) ?_
  rintro T6 v6 L6 X6 ⟨rfl, N6q, Kc6, g10, g11⟩
  obtain ⟨N6, Ol6, Kp6⟩ := ivK N5 Ol5 Kp5 N6q Kc6 (allS ge1 (allS gebx3 all0)) (kaS (Or.inr sz1) (kaS (Or.inr szbx3) all0))
  show Go _ _ _ _ _ (mkF _ _ _ [.int 1])
  refine G37 X6 K d5_28 rfl ?_
  refine G0 X6 K d5_29 rfl rfl ?_
  refine G1 X6 K d5_30 rfl ?_
  refine G3 X6 K (v := 2) d5_31 (by decide) ?_
  refine G16 X6 K d5_32 (z := 102) (by decide) ?_
  refine G66 X6 K d5_33 (z := 102) (by decide) ?_
  refine G14 X6 K (W := 1) (w39 H) (w40 H) (w28 H) (w41 H) (by decide) (rm6_49 H Ol6) rfl rfl rfl rfl (lenOf pd_4 rfl) rfl d5_34 (by decide) ?_
  rintro T7 v7 L7 X7 ⟨bx6, bx7, kB4, rfl, N7q, Kc7, lz7_0, lz7_1, g12, g13⟩
  have szbx6 := Nat.le_trans Kp6.1 lz7_0
  have gebx6 := Nat.le_trans Ol6.2.1 lz7_0
  have f4 := (g9.keep Kc6 (so6.nin 0 [5, 2] rfl rfl rfl))
  have lkbx6 : bx5 < bx6 := Nat.lt_of_lt_of_le f4.lt lz7_0
  have so7 := so6.cons lkbx6
  have szbx7 := Nat.le_trans szbx6 (Nat.le_of_lt lz7_1)
  have gebx7 := Nat.le_trans gebx6 (Nat.le_of_lt lz7_1)
  have so8 := so7.cons lz7_1
  obtain ⟨N7, Ol7, Kp7⟩ := ivK N6 Ol6 Kp6 N7q Kc7 all0 all0
  show Go _ _ _ _ _ (mkF _ _ _ [.ref bx6, .ref b1])
  have f5 := (g10.keep Kc7 nin0)
  have f6 := (g11.keep Kc7 nin0)
  have ne5 := so8.ne 1 4 rfl rfl rfl
  have ne6 := so8.ne 1 7 rfl rfl rfl
  refine G8 X7 K (W := 0) (w58 H) (w59 H) (nf_self K (w61 H)) (w61 H) (w60 H) (w3 H) (w62 H) (by decide) (rm10_22 H b1 bx6 bx3 bx1 bx4 kB2 bx7 Ol7 f5 ge1 f6 g12 ne2 g7 gebx3 (Ne.symm ne2) ne5 ne6) rfl f5.1 rfl rfl rfl (lenOf pd_9 rfl) rfl d5_37 (by decide) ?_
  rintro T8 v8 L8 X8 ⟨rfl, N8q, Kc8, g14, g15⟩
  obtain ⟨N8, Ol8, Kp8⟩ := ivK N7 Ol7 Kp7 N8q Kc8 (allS ge1 (allS gebx3 all0)) (kaS (Or.inr sz1) (kaS (Or.inr szbx3) all0))
  show Go _ _ _ _ _ (mkF _ _ _ [.int 1])
  refine G37 X8 K d5_40 rfl ?_
  refine G27 X8 K (tw H 89 rfl) (tw H 90 rfl) (w91 H) rfl d5_41 (by decide) (by decide) ?_
  intro T9 h9 b9 X9 e9 E9 z9 A9 D9
  have f7 := (g13.keep Kc8 (so8.nin 0 [7, 4] rfl rfl rfl))
  obtain ⟨sz9, ge9, Ol9, Kp9⟩ := ivE Ol8 Kp8 E9 z9
  have lk9 := Nat.lt_of_lt_of_eq f7.lt z9
  have so9 := so8.cons lk9
  have O9 := Ω2.new H A9 D9
  refine G9 X9 K d5_44 rfl ?_
  refine G0 X9 K d5_45 rfl rfl ?_
  refine G0 X9 K d5_46 rfl rfl ?_
  have f8 := (g14.ext E9)
  have f9 := (g15.ext E9)
  have f10 := ((g12.keep Kc8 (so9.nin 2 [8, 5] rfl rfl rfl)).ext E9)
  have f11 := ((((g8.keep Kc6 (so9.nin 4 [8, 5] rfl rfl rfl)).keep Kc7 nin0).keep Kc8 (so9.nin 4 [8, 5] rfl rfl rfl)).ext E9)
  have kb1 := Keep.cat Kc5 Kc6 [b1, bx3] [] [0, 1] rfl rfl
  have kb2 := Keep.cat Kc7 Kc8 [b1, bx3] [] [0, 1] rfl rfl
  have kb3 := Keep.cat kb1 kb2 [b1, bx3] [0, 1] [0, 1] rfl rfl
  have f12 := (((g2.keep Kc4 (so9.nin 7 [8] rfl rfl rfl)).keep kb3 (so9.nin 7 [8, 5] rfl rfl rfl)).ext E9)
  have f13 := ((g6.keep kb3).ext E9)
  refine G23 X9 K (W := 1) rfl (tw H 92 rfl) (tw H 93 rfl) (w91 H) (tw H 94 rfl) (by decide) (rm15_37 H b9 a1 b1 bx3 bx1 bx4 bx6 kB2 bx7 bx5 bx2 Ol9 f8 f9 f10 f11 f12 f13 O9 ge9) e9 rfl rfl rfl (lenOf pd_17 rfl) rfl d5_47 (by decide) ?_
  rintro T10 v10 L10 X10 ⟨bx8, bx9, kB5, rfl, N10q, Kc10, lz10_0, lz10_1, g16, g17, g18, g19, g20⟩
  have szbx8 := Nat.le_trans Kp9.1 lz10_0
  have gebx8 := Nat.le_trans Ol9.2.1 lz10_0
  have lkbx8 : b9 < bx8 := Nat.lt_of_lt_of_le O9.lt lz10_0
  have so10 := so9.cons lkbx8
  have szbx9 := Nat.le_trans szbx8 (Nat.le_of_lt lz10_1)
  have gebx9 := Nat.le_trans gebx8 (Nat.le_of_lt lz10_1)
  have so11 := so10.cons lz10_1
  obtain ⟨N10, Ol10, Kp10⟩ := ivK N8 Ol9 Kp9 N10q Kc10 (allS ge9 all0) (kaS (Or.inr sz9) all0)
  show Go _ _ _ _ _ (mkF _ _ _ [.ref b9])
  refine G13 X10 K rfl rfl rfl d5_50 (by decide) (by decide) ?_
  have f14 := (f12.keep Kc10 (so11.nin 9 [2] rfl rfl rfl))
  have f15 := ((((g3.keep Kc4 (so11.nin 8 [10] rfl rfl rfl)).keep kb3 (so11.nin 8 [10, 7] rfl rfl rfl)).ext E9).keep Kc10 (so11.nin 8 [2] rfl rfl rfl))
  have f16 := (f11.keep Kc10 (so11.nin 6 [2] rfl rfl rfl))
  have f17 := ((((f4.keep Kc7 nin0).keep Kc8 (so11.nin 5 [10, 7] rfl rfl rfl)).ext E9).keep Kc10 (so11.nin 5 [2] rfl rfl rfl))
  have f18 := (f10.keep Kc10 (so11.nin 4 [2] rfl rfl rfl))
  have f19 := ((f7.ext E9).keep Kc10 (so11.nin 3 [2] rfl rfl rfl))
  exact ⟨bx1, bx2, bx4, bx5, bx6, bx7, b9, bx8, bx9, kB1, kB3, kB4, kB5, rfl, N10, Kp10, szbx1, lz3_1, (so11.lt 6 8 rfl rfl rfl), lz5_1, lkbx6, lz7_1, lk9, lkbx8, lz10_1, f14, f15, f16, f17, f18, f19, g16, g17, g18, g19, g20⟩
theorem rm11_51 (H : Hyp Z a0) (a1 a2 a3 a4 : Addr) (k1 : ClassId) (a5 a6 : Addr) (Ol0 : Old Z (ζ Z) h0) (A_1 : Arv Z h0 a3 k1 (.object Q3) 10 [.ref a4, .null, .null, .null, .null, .null, .null, .null, .null, .null] .null) (O_1 : Ovr Z k1 Q3) (B_1 : Ω2 Z h0 a2 (.ref a5) (.ref a6)) (ge_1 : (ζ Z) ≤ a3) (B_2 : Ω0 Z h0 a1 (.int 2) (.ref a3) (.int 1)) (ne_1 : a1 ≠ a3) (ge_2 : (ζ Z) ≤ a1) (ne_2 : a3 ≠ a1) :
    Mt l Z M10 C15 4 none [] ⟨0, 0, 0, 0⟩ #[.ref a1, .ref a2, .ref a3, .int 1] h0 (fun v h L => (v = none ∧ Fr (ζ Z) L ∧ Keep h0 h [a3, a1] ∧ Arv Z h a3 k1 (.object Q3) 10 [.ref a4, .ref a2, .null, .null, .null, .null, .null, .null, .null, .null] .null ∧ Ω0 Z h a1 (.int 2) (.ref a3) (.int 2))) := by
  refine g_be (pf pn12) (ef_8 a1 a2 a3) fun T0 K X0 e0 => ?_
  refine G1 X0 K d11_0 rfl ?_
  refine G0 X0 K d11_1 rfl rfl ?_
  refine G21 X0 K e0 A_1 d11_2 ?_
  refine G19 11 X0 K d11_3 (by decide) (by decide) (by decide) ?_
  refine G0 X0 K d11_11 rfl rfl ?_
  refine G1 X0 K d11_12 rfl ?_
  refine G0 X0 K d11_13 rfl rfl ?_
  refine G32 X0 K (vs' := [.ref a4, .ref a2, .null, .null, .null, .null, .null, .null, .null, .null]) e0 A_1 (Or.inr ⟨_, rfl, O_1, (Ins.of_exa B_1.1 (tw H 200 rfl))⟩) (by decide) (Nat.le_of_ble_eq_true rfl) rfl d11_14 ?_
  intro T1 h1 X1 e1 W1 F1
  obtain ⟨N1, Ol1, Kp1⟩ := ivW (Fr.nil _) Ol0 (Keep.refl h0 [a3, a1]) X1 W1 ge_1 (ow 0 rfl)
  refine G0 X1 K d11_15 rfl rfl ?_
  refine G1 X1 K d11_16 rfl ?_
  refine G3 X1 K (v := 1) d11_17 (by decide) ?_
  refine G16 X1 K d11_18 (z := 2) (by decide) ?_
  have f1 := (B_2.other W1 ne_1)
  refine G5 X1 K (w65 H) Via.refl e1 f1.2.2.2 f1.1 (Or.inl (w66 H)) (w2 H) (ty := .int) (by decide) rfl rfl d11_19 ?_
  intro T2 h2 X2 e2 W2 F2
  obtain ⟨N2, Ol2, Kp2⟩ := ivW N1 Ol1 Kp1 X2 W2 ge_2 (ow 1 rfl)
  have O2 := Ω0.s2 H f1 W2
  refine G17 X2 K d11_22 (by decide) (by decide) ?_
  have Kp : Keep h0 T2.heap [a3, a1] := by rw [e2]; exact Kp2
  have f2 := (F1.other W2 ne_2)
  exact ⟨rfl, N2, Kp, (by rw [e2]; exact f2), (by rw [e2]; exact O2)⟩
theorem rm10_52 (H : Hyp Z a0) (a1 a2 a3 a4 : Addr) (k1 : ClassId) (a5 a6 : Addr) (Ol0 : Old Z (ζ Z) h0) (B_1 : Ω0 Z h0 a1 (.int 1) (.ref a3) (.int 1)) (ge_1 : (ζ Z) ≤ a1) (A_1 : Arv Z h0 a3 k1 (.object Q3) 10 [.ref a4, .null, .null, .null, .null, .null, .null, .null, .null, .null] .null) (B_2 : Ω2 Z h0 a2 (.ref a5) (.ref a6)) (ne_1 : a3 ≠ a1) (O_1 : Ovr Z k1 Q3) (ge_2 : (ζ Z) ≤ a3) (ne_2 : a1 ≠ a3) (ne_3 : a2 ≠ a3) (ne_4 : a2 ≠ a1) :
    Mt l Z M9 C16 2 (some .boolean) [] ⟨1, 0, 0, 15⟩ #[.ref a1, .ref a2] h0 (fun v h L => (v = some (.int 1) ∧ Fr (ζ Z) L ∧ Keep h0 h [a1, a3] ∧ Ω0 Z h a1 (.int 2) (.ref a3) (.int 2) ∧ Arv Z h a3 k1 (.object Q3) 10 [.ref a4, .ref a2, .null, .null, .null, .null, .null, .null, .null, .null] .null)) := by
  refine g_be (pf pn12) (ef_6 a1 a2) fun T0 K X0 e0 => ?_
  have nw_a2 : a2 ∉ [a1, a3] := (ninS ne_4 (ninS ne_3 nin0))
  refine G0 X0 K d10_0 rfl rfl ?_
  refine G9 X0 K d10_1 rfl ?_
  refine G2 X0 K (w63 H) (Via.of (w64 H)) e0 B_1.2.1 d10_2 ?_
  intro T1 X1 e1
  refine G3 X1 K (v := 1) d10_5 (by decide) ?_
  refine G16 X1 K d10_6 (z := 2) (by decide) ?_
  refine G5 X1 K (w63 H) (Via.of (w64 H)) e1 B_1.2.1 B_1.1 (Or.inl (w23 H)) (w2 H) (ty := .int) (by decide) rfl rfl d10_7 ?_
  intro T2 h2 X2 e2 W2 F2
  obtain ⟨N2, Ol2, Kp2⟩ := ivW (Fr.nil _) Ol0 (Keep.refl h0 [a1, a3]) X2 W2 ge_1 (ow 0 rfl)
  have O2 := Ω0.s0 H B_1 W2
  refine G0 X2 K d10_10 rfl rfl ?_
  refine G0 X2 K d10_11 rfl rfl ?_
  refine G0 X2 K d10_12 rfl rfl ?_
  refine G2 X2 K (w25 H) Via.refl e2 O2.2.2.1 d10_13 ?_
  intro T3 X3 e3
  refine G0 X3 K d10_16 rfl rfl ?_
  refine G2 X3 K (w65 H) Via.refl e3 O2.2.2.2 d10_17 ?_
  intro T4 X4 e4
  have f1 := (A_1.other W2 ne_1)
  have f2 := B_2.keep Kp2 nw_a2
  refine G25 X4 K (W := 0) (w67 H) (w69 H) (w70 H) (w68 H) (w3 H) (w71 H) (by decide) (rm11_51 H a1 a2 a3 a4 k1 a5 a6 Ol2 f1 O_1 f2 ge_2 O2 ne_2 ge_1 ne_1) e4 O2.1 rfl rfl rfl (lenOf pd_8 rfl) rfl d10_20 (by decide) ?_
  rintro T5 v5 L5 X5 ⟨rfl, N5q, Kc5, g1, g2⟩
  obtain ⟨N5, Ol5, Kp5⟩ := ivK N2 Ol2 Kp2 N5q Kc5 (allS ge_2 (allS ge_1 all0)) (kaS (ow 1 rfl) (kaS (ow 0 rfl) all0))
  show Go _ _ _ _ _ (mkF _ _ _ [])
  refine G3 X5 K (v := 1) d10_23 (by decide) ?_
  refine G31 X5 K (by simp) (z' := 1) (by decide) d10_24 (by decide) (by decide) ?_
  exact ⟨rfl, N5, Kp5, g2, g1⟩
theorem rm32_53 (H : Hyp Z a0) (a1 : Addr) (Ol0 : Old Z (ζ Z) h0) :
    Mt l Z M36 C82 1 none [] ⟨1, 0, 0, 12⟩ #[.ref a1] h0 (fun v h L => (v = none ∧ Fr (ζ Z) L ∧ h = h0)) := by
  refine g_be (pf pn11) (ef_0 a1) fun T0 K X0 e0 => ?_
  refine G0 X0 K d32_0 rfl rfl ?_
  refine G40 X0 K (W := 0) (tw H 222 rfl) (w20 H) (w21 H) e0 rfl d32_1 (by decide) (Nat.le_of_eq rfl) (by decide) ?_
  intro T1 X1 e1
  refine G17 X1 K d32_4 (by decide) (by decide) ?_
  exact ⟨rfl, (Fr.nil _), e1⟩
theorem rm31_54 (H : Hyp Z a0) (a1 : Addr) (Ol0 : Old Z (ζ Z) h0) (B_1 : Ω5 Z h0 a1 (.float 0) .null (.int 0) (.int 0) (.int 0)) (ge_1 : (ζ Z) ≤ a1) :
    Mt l Z M35 C64 1 none [] ⟨2, 0, 0, 24⟩ #[.ref a1] h0 (fun v h L => (v = none ∧ Fr (ζ Z) L ∧ Keep h0 h [a1] ∧ Ω5 Z h a1 (.float 1061158912) .null (.int 0) (.int 0) (.int 0))) := by
  refine g_be (pf pn16) (ef_0 a1) fun T0 K X0 e0 => ?_
  refine G0 X0 K d31_0 rfl rfl ?_
  refine G23 X0 K (W := 0) rfl (tw H 216 rfl) (tw H 217 rfl) (tw H 220 rfl) (tw H 221 rfl) (by decide) (rm32_53 H a1 Ol0) e0 rfl rfl rfl (lenOf pd_0 rfl) rfl d31_1 (by decide) ?_
  rintro T1 v1 L1 X1 ⟨rfl, N1q, e1⟩
  have N1 := Fr.app (Fr.nil _) N1q
  show Go _ _ _ _ _ (mkF _ _ _ [])
  refine G0 X1 K d31_4 rfl rfl ?_
  refine G85 X1 K (tw H 223 rfl) d31_5 ?_
  refine G5 X1 K (tw H 224 rfl) Via.refl e1 B_1.2.1 B_1.1 (Or.inr ⟨(tw H 225 rfl), rfl, rfl⟩) (w211 H) (ty := .float) (by decide) rfl rfl d31_7 ?_
  intro T2 h2 X2 e2 W2 F2
  obtain ⟨N2, Ol2, Kp2⟩ := ivW N1 Ol0 (Keep.refl h0 [a1]) X2 W2 ge_1 (ow 0 rfl)
  have O2 := Ω5.s0 H B_1 W2
  refine G17 X2 K d31_10 (by decide) (by decide) ?_
  have Kp : Keep h0 T2.heap [a1] := by rw [e2]; exact Kp2
  exact ⟨rfl, N2, Kp, (by rw [e2]; exact O2)⟩
theorem rm19_55 (H : Hyp Z a0) (a1 a2 : Addr) (Ol0 : Old Z (ζ Z) h0) (B_1 : Ω0 Z h0 a1 (.int 2) (.ref a2) (.int 2)) :
    Mt l Z M19 C63 1 (some .boolean) [] ⟨0, 0, 0, 0⟩ #[.ref a1] h0 (fun v h L => (v = some (.int 0) ∧ Fr (ζ Z) L ∧ h = h0)) := by
  refine g_be (pf pn12) (ef_0 a1) fun T0 K X0 e0 => ?_
  refine G0 X0 K d19_0 rfl rfl ?_
  refine G2 X0 K (w65 H) Via.refl e0 B_1.2.2.2 d19_1 ?_
  intro T1 X1 e1
  refine G15 11 X1 K d19_4 (by decide) (by decide) (by decide) ?_
  refine G3 X1 K (v := 0) d19_11 (by decide) ?_
  refine G31 X1 K (by simp) (z' := 0) (by decide) d19_12 (by decide) (by decide) ?_
  exact ⟨rfl, (Fr.nil _), e1⟩
theorem rm23_56 (H : Hyp Z a0) (Ol0 : Old Z (ζ Z) h0) :
    Mt l Z M25 C45 2 (some .int) [] ⟨0, 0, 0, 0⟩ #[.int 10, .int 2] h0 (fun v h L => (v = some (.int 2) ∧ Fr (ζ Z) L ∧ h = h0)) := by
  refine g_be (Jvm.Free.JP.mathPlain rfl (by decide +kernel)) ef_22 fun T0 K X0 e0 => ?_
  refine G1 X0 K d23_0 rfl ?_
  refine G1 X0 K d23_1 rfl ?_
  refine G19 9 X0 K d23_2 (by decide) (by decide) (by decide) ?_
  refine G1 X0 K d23_9 rfl ?_
  refine G18 X0 K d23_10 (by decide) (by decide) ?_
  exact ⟨rfl, (Fr.nil _), e0⟩
theorem rm22_57 (H : Hyp Z a0) (a1 a2 a3 : Addr) (k1 : ClassId) (a4 a5 a6 a7 : Addr) (Ol0 : Old Z (ζ Z) h0) (A_1 : Arv Z h0 a1 k1 (.object Q3) 10 [.ref a2, .ref a3, .null, .null, .null, .null, .null, .null, .null, .null] .null) (B_1 : Ω2 Z h0 a3 (.ref a4) (.ref a5)) (B_2 : Ω2 Z h0 a2 (.ref a6) (.ref a7)) :
    Mt l Z M24 C17 4 (some (.array (.object Q3))) [] ⟨1, 1, 2, 20⟩ #[.ref a1, .int 2, (.ref (mrOf Z Q7))] h0 (fun v h L => (∃ (b2 : Addr) (kA2 : ClassId), v = some (.ref b2) ∧ Fr (ζ Z) L ∧ Keep h0 h [] ∧ h0.size ≤ b2 ∧ Arv Z h b2 kA2 (.object Q3) 2 [.ref a2, .ref a3] .null ∧ Exa Z h b2 Q7 ∧ Ovr Z kA2 Q3)) := by
  refine g_be (pf pn14) (ef_23 a1 (mrOf Z Q7)) fun T0 K X0 e0 => ?_
  have nw_a1 : a1 ∉ [] := nin0
  have nw_a2 : a2 ∉ [] := nin0
  have nw_a3 : a3 ∉ [] := nin0
  refine G0 X0 K d22_0 rfl rfl ?_
  refine G71 X0 K (tw H 145 rfl) (mirM H) e0 d22_1 ?_
  intro T1 X1 e1
  refine G64 6 X1 K (same := true) d22_3 rfl rfl (decide_eq_true rfl) (by decide) (by decide) ?_
  refine G1 X1 K d22_6 rfl ?_
  refine G54 X1 K (cap := 2) (vs := [.null, .null]) (ad := Q7) (by decide) (tw H 146 rfl) (tw H 87 rfl) e1 d22_7 (by decide) (by decide) rfl (by decide) (by decide) (by decide) ?_
  intro T2 h2 b2 kA2 X2 e2 E2 z2 A2 O2 B2
  obtain ⟨sz2, ge2, Ol2, Kp2⟩ := ivE Ol0 (Keep.refl h0 []) E2 z2
  have so1 := Sd.one b2
  refine G6 24 X2 K d22_10 (by decide) (by decide) ?_
  refine G38 X2 K (L' := #[vr a1, vi 2, vr (mrOf Z Q7), vr b2]) d22_24 rfl rfl ?_
  refine G0 X2 K d22_25 rfl rfl ?_
  refine G3 X2 K (v := 0) d22_26 (by decide) ?_
  refine G0 X2 K d22_27 rfl rfl ?_
  refine G3 X2 K (v := 0) d22_28 (by decide) ?_
  refine G0 X2 K d22_29 rfl rfl ?_
  have f1 := A_1.keep Kp2 nw_a1
  refine G21 X2 K e2 f1 d22_30 ?_
  refine G1 X2 K d22_31 rfl ?_
  refine G14 X2 K (W := 4) (tw H 147 rfl) (tw H 148 rfl) (w84 H) (tw H 149 rfl) (by decide) (rm23_56 H Ol2) e2 rfl rfl rfl (lenOf pd_5 rfl) rfl d22_32 (by decide) ?_
  rintro T3 v3 L3 X3 ⟨rfl, N3q, e3⟩
  have N3 := Fr.app (Fr.nil _) N3q
  show Go _ _ _ _ _ (mkF _ _ _ [.int 2, .int 0, .ref b2, .int 0, .ref a1])
  have f2 := B_1.keep Kp2 nw_a3
  have f3 := B_2.keep Kp2 nw_a2
  refine G72 X3 K (W := 0) (us := [.ref a2, .ref a3]) (vr := [.ref a2, .ref a3]) (tw H 150 rfl) (tw H 153 rfl) (tw H 151 rfl) (tw H 152 rfl) e3 f1 A2 (by decide) (by decide) (by decide) rfl (avS (Or.inr ⟨_, rfl, O2, (Ins.of_exa f3.1 (tw H 200 rfl))⟩) (avS (Or.inr ⟨_, rfl, O2, (Ins.of_exa f2.1 (tw H 200 rfl))⟩) av0)) (by decide) rfl N3 ge2 rfl d22_35 (by decide) (Nat.le_of_eq rfl) (by decide) ?_
  intro T4 h4 L4 X4 e4 N4 Kc4 F4
  have Ol4 := Ol2.keep Kc4 (allS ge2 all0)
  have Kp4 := Kp2.trans Kc4 (kaS (Or.inr sz2) all0)
  refine G0 X4 K d22_38 rfl rfl ?_
  refine G13 X4 K rfl rfl rfl d22_39 (by decide) (by decide) ?_
  have Kp : Keep h0 T4.heap [] := by rw [e4]; exact Kp4
  have f4 := (B2.keep Kc4)
  exact ⟨b2, kA2, rfl, N4, Kp, sz2, (by rw [e4]; exact F4), (by rw [e4]; exact f4), O2⟩
theorem rm21_58 (H : Hyp Z a0) (a1 a2 a3 : Addr) (k1 : ClassId) (a4 a5 a6 a7 : Addr) (Ol0 : Old Z (ζ Z) h0) (E_1 : Exa Z h0 a1 Q7) (A_1 : Arv Z h0 a1 k1 (.object Q3) 10 [.ref a2, .ref a3, .null, .null, .null, .null, .null, .null, .null, .null] .null) (B_1 : Ω2 Z h0 a3 (.ref a4) (.ref a5)) (B_2 : Ω2 Z h0 a2 (.ref a6) (.ref a7)) :
    Mt l Z M22 C52 2 (some (.array (.object Q3))) [] ⟨2, 1, 2, 35⟩ #[.ref a1, .int 2] h0 (fun v h L => (∃ (bx1 : Addr) (kB1 : ClassId), v = some (.ref bx1) ∧ Fr (ζ Z) L ∧ Keep h0 h [] ∧ h0.size ≤ bx1 ∧ Arv Z h bx1 kB1 (.object Q3) 2 [.ref a2, .ref a3] .null ∧ Exa Z h bx1 Q7 ∧ Ovr Z kB1 Q3)) := by
  refine g_be (pf pn14) (ef_24 a1) fun T0 K X0 e0 => ?_
  refine G0 X0 K d21_0 rfl rfl ?_
  refine G1 X0 K d21_1 rfl ?_
  refine G0 X0 K d21_2 rfl rfl ?_
  refine G73 X0 K (W := 2) (tw H 136 rfl) (tw H 137 rfl) (w113 H) (tw H 139 rfl) (tw H 138 rfl) (tw H 140 rfl) e0 E_1 (mirM H) rfl d21_3 (by decide) (Nat.le_of_eq rfl) (by decide) ?_
  intro T1 X1 e1
  refine G14 X1 K (W := 0) (tw H 142 rfl) (tw H 143 rfl) (w134 H) (tw H 144 rfl) (by decide) (rm22_57 H a1 a2 a3 k1 a4 a5 a6 a7 Ol0 A_1 B_1 B_2) e1 rfl rfl rfl (lenOf pd_11 rfl) rfl d21_6 (by decide) ?_
  rintro T2 v2 L2 X2 ⟨bx1, kB1, rfl, N2q, Kc2, lz2_0, g1, g2, g3⟩
  have szbx1 := Nat.le_trans (Keep.refl h0 []).1 lz2_0
  have gebx1 := Nat.le_trans Ol0.2.1 lz2_0
  have so1 := Sd.one bx1
  obtain ⟨N2, Ol2, Kp2⟩ := ivK (Fr.nil _) Ol0 (Keep.refl h0 []) N2q Kc2 all0 all0
  show Go _ _ _ _ _ (mkF _ _ _ [.ref bx1])
  refine G13 X2 K rfl rfl rfl d21_9 (by decide) (by decide) ?_
  exact ⟨bx1, kB1, rfl, N2, Kp2, szbx1, g1, g2, g3⟩
theorem rm20_59 (H : Hyp Z a0) (a1 a2 a3 a4 : Addr) (k1 : ClassId) (a5 a6 a7 a8 : Addr) (Ol0 : Old Z (ζ Z) h0) (B_1 : Ω0 Z h0 a1 (.int 2) (.ref a2) (.int 2)) (A_1 : Arv Z h0 a2 k1 (.object Q3) 10 [.ref a3, .ref a4, .null, .null, .null, .null, .null, .null, .null, .null] .null) (B_2 : Ω2 Z h0 a4 (.ref a5) (.ref a6)) (B_3 : Ω2 Z h0 a3 (.ref a7) (.ref a8)) (E_1 : Exa Z h0 a2 Q7) :
    Mt l Z M21 C54 1 (some (.array (.object Q3))) [] ⟨3, 1, 2, 48⟩ #[.ref a1] h0 (fun v h L => (∃ (bx1 : Addr) (kB1 : ClassId), v = some (.ref bx1) ∧ Fr (ζ Z) L ∧ Keep h0 h [] ∧ h0.size ≤ bx1 ∧ Arv Z h bx1 kB1 (.object Q3) 2 [.ref a3, .ref a4] .null ∧ Exa Z h bx1 Q7 ∧ Ovr Z kB1 Q3)) := by
  refine g_be (pf pn12) (ef_0 a1) fun T0 K X0 e0 => ?_
  refine G0 X0 K d20_0 rfl rfl ?_
  refine G2 X0 K (w25 H) Via.refl e0 B_1.2.2.1 d20_1 ?_
  intro T1 X1 e1
  refine G0 X1 K d20_4 rfl rfl ?_
  refine G2 X1 K (w65 H) Via.refl e1 B_1.2.2.2 d20_5 ?_
  intro T2 X2 e2
  refine G14 X2 K (W := 0) (tw H 132 rfl) (tw H 133 rfl) (w134 H) (tw H 135 rfl) (by decide) (rm21_58 H a2 a3 a4 k1 a5 a6 a7 a8 Ol0 E_1 A_1 B_2 B_3) e2 rfl rfl rfl (lenOf pd_12 rfl) rfl d20_8 (by decide) ?_
  rintro T3 v3 L3 X3 ⟨bx1, kB1, rfl, N3q, Kc3, lz3_0, g1, g2, g3⟩
  have szbx1 := Nat.le_trans (Keep.refl h0 []).1 lz3_0
  have gebx1 := Nat.le_trans Ol0.2.1 lz3_0
  have so1 := Sd.one bx1
  obtain ⟨N3, Ol3, Kp3⟩ := ivK (Fr.nil _) Ol0 (Keep.refl h0 []) N3q Kc3 all0 all0
  show Go _ _ _ _ _ (mkF _ _ _ [.ref bx1])
  refine G13 X3 K rfl rfl rfl d20_11 (by decide) (by decide) ?_
  exact ⟨bx1, kB1, rfl, N3, Kp3, szbx1, g1, g2, g3⟩
theorem rm33_60 (H : Hyp Z a0) (a1 a2 a3 : Addr) (Ol0 : Old Z (ζ Z) h0) (B_1 : Ω6 Z h0 a1 .null .null) (ge_1 : (ζ Z) ≤ a1) :
    Mt l Z M37 C42 3 none [] ⟨4, 0, 0, 48⟩ #[.ref a1, .ref a2, .ref a3] h0 (fun v h L => (v = none ∧ Fr (ζ Z) L ∧ Keep h0 h [a1] ∧ Ω6 Z h a1 (.ref a2) (.ref a3))) := by
  refine g_be (pf pn21) (ef_16 a1 a2 a3) fun T0 K X0 e0 => ?_
  refine G0 X0 K d33_0 rfl rfl ?_
  refine G23 X0 K (W := 0) rfl (tw H 242 rfl) (tw H 172 rfl) (tw H 175 rfl) (tw H 176 rfl) (by decide) (rm28_31 H a1 Ol0) e0 rfl rfl rfl (lenOf pd_0 rfl) rfl d33_1 (by decide) ?_
  rintro T1 v1 L1 X1 ⟨rfl, N1q, e1⟩
  have N1 := Fr.app (Fr.nil _) N1q
  show Go _ _ _ _ _ (mkF _ _ _ [])
  refine G0 X1 K d33_4 rfl rfl ?_
  refine G0 X1 K d33_5 rfl rfl ?_
  refine G14 X1 K (W := 1) (tw H 246 rfl) (tw H 162 rfl) (w163 H) (tw H 164 rfl) (by decide) (rm26_29 H a2 Ol0) e1 rfl rfl rfl (lenOf pd_13 rfl) rfl d33_6 (by decide) ?_
  rintro T2 v2 L2 X2 ⟨rfl, N2q, e2⟩
  have N2 := Fr.app N1 N2q
  show Go _ _ _ _ _ (mkF _ _ _ [.ref a2, .ref a1])
  refine G5 X2 K (tw H 247 rfl) Via.refl e2 B_1.2.1 B_1.1 (Or.inr ⟨(tw H 248 rfl), rfl, rfl⟩) (w236 H) (ty := (.object Q3)) (by decide) rfl rfl d33_9 ?_
  intro T3 h3 X3 e3 W3 F3
  obtain ⟨N3, Ol3, Kp3⟩ := ivW N2 Ol0 (Keep.refl h0 [a1]) X3 W3 ge_1 (ow 0 rfl)
  have O3 := Ω6.s0 H B_1 W3
  refine G0 X3 K d33_12 rfl rfl ?_
  refine G0 X3 K d33_13 rfl rfl ?_
  refine G14 X3 K (W := 1) (tw H 246 rfl) (tw H 162 rfl) (w163 H) (tw H 164 rfl) (by decide) (rm26_29 H a3 Ol3) e3 rfl rfl rfl (lenOf pd_13 rfl) rfl d33_14 (by decide) ?_
  rintro T4 v4 L4 X4 ⟨rfl, N4q, e4⟩
  have N4 := Fr.app N3 N4q
  show Go _ _ _ _ _ (mkF _ _ _ [.ref a3, .ref a1])
  refine G5 X4 K (tw H 249 rfl) Via.refl e4 O3.2.2 O3.1 (Or.inr ⟨(tw H 250 rfl), rfl, rfl⟩) (w236 H) (ty := (.object Q3)) (by decide) rfl rfl d33_17 ?_
  intro T5 h5 X5 e5 W5 F5
  obtain ⟨N5, Ol5, Kp5⟩ := ivW N4 Ol3 Kp3 X5 W5 ge_1 (ow 0 rfl)
  have O5 := Ω6.s1 H O3 W5
  refine G17 X5 K d33_20 (by decide) (by decide) ?_
  have Kp : Keep h0 T5.heap [a1] := by rw [e5]; exact Kp5
  exact ⟨rfl, N5, Kp, (by rw [e5]; exact O5)⟩
theorem rm24_61 (H : Hyp Z a0) (a1 a2 a3 : Addr) (k1 : ClassId) (Ol0 : Old Z (ζ Z) h0) (A_1 : Arv Z h0 a1 k1 (.object Q3) 2 [.ref a2, .ref a3] .null) :
    Mt l Z M27 C22 2 (some (.object Q19)) [] ⟨5, 1, 2, 63⟩ #[.ref a1] h0 (fun v h L => (∃ (b1 : Addr), v = some (.ref b1) ∧ Fr (ζ Z) L ∧ Keep h0 h [] ∧ h0.size ≤ b1 ∧ Ω6 Z h b1 (.ref a2) (.ref a3))) := by
  refine g_be (pf pn24) (ef_15 a1) fun T0 K X0 e0 => ?_
  have nw_a1 : a1 ∉ [] := nin0
  refine G0 X0 K d24_0 rfl rfl ?_
  refine G21 X0 K e0 A_1 d24_1 ?_
  refine G86 45 X0 K (i := 2) (o := 43) d24_2 (by decide) (by decide) (by decide) (by decide) ?_
  refine G27 X0 K (tw H 235 rfl) (w236 H) (w237 H) e0 d24_45 (by decide) (by decide) ?_
  intro T1 h1 b1 X1 e1 E1 z1 A1 D1
  obtain ⟨sz1, ge1, Ol1, Kp1⟩ := ivE Ol0 (Keep.refl h0 []) E1 z1
  have so1 := Sd.one b1
  have O1 := Ω6.new H A1 D1
  refine G9 X1 K d24_48 rfl ?_
  refine G0 X1 K d24_49 rfl rfl ?_
  refine G3 X1 K (v := 0) d24_50 (by decide) ?_
  have f1 := A_1.keep Kp1 nw_a1
  refine G36 X1 K (v := (.ref a2)) e1 f1 rfl (by decide) rfl d24_51 ?_
  refine G0 X1 K d24_52 rfl rfl ?_
  refine G3 X1 K (v := 1) d24_53 (by decide) ?_
  refine G36 X1 K (v := (.ref a3)) e1 f1 rfl (by decide) rfl d24_54 ?_
  refine G23 X1 K (W := 1) rfl (tw H 238 rfl) (tw H 239 rfl) (w237 H) (tw H 241 rfl) (by decide) (rm33_60 H b1 a2 a3 Ol1 O1 ge1) e1 rfl rfl rfl (lenOf pd_19 rfl) rfl d24_55 (by decide) ?_
  rintro T2 v2 L2 X2 ⟨rfl, N2q, Kc2, g1⟩
  obtain ⟨N2, Ol2, Kp2⟩ := ivK (Fr.nil _) Ol1 Kp1 N2q Kc2 (allS ge1 all0) (kaS (Or.inr sz1) all0)
  show Go _ _ _ _ _ (mkF _ _ _ [.ref b1])
  refine G13 X2 K rfl rfl rfl d24_58 (by decide) (by decide) ?_
  exact ⟨b1, rfl, N2, Kp2, sz1, g1⟩
theorem rm18_62 (H : Hyp Z a0) (a1 a2 a3 a4 : Addr) (k1 : ClassId) (a5 a6 a7 a8 : Addr) (Ol0 : Old Z (ζ Z) h0) (B_1 : Ω0 Z h0 a1 (.int 2) (.ref a2) (.int 2)) (A_1 : Arv Z h0 a2 k1 (.object Q3) 10 [.ref a3, .ref a4, .null, .null, .null, .null, .null, .null, .null, .null] .null) (B_2 : Ω2 Z h0 a4 (.ref a5) (.ref a6)) (B_3 : Ω2 Z h0 a3 (.ref a7) (.ref a8)) (E_1 : Exa Z h0 a2 Q7) :
    Mt l Z M17 C33 2 (some (.object Q19)) [] ⟨6, 2, 4, 76⟩ #[.ref a1] h0 (fun v h L => (∃ (bx2 : Addr), v = some (.ref bx2) ∧ Fr (ζ Z) L ∧ Keep h0 h [] ∧ h0.size ≤ bx2 ∧ Ω6 Z h bx2 (.ref a3) (.ref a4))) := by
  refine g_be (pf pn18) (ef_15 a1) fun T0 K X0 e0 => ?_
  refine G0 X0 K d18_0 rfl rfl ?_
  refine G65 X0 K (tw H 109 rfl) e0 B_1.1 (NI.no (w110 H) (w236 H) (NI.step (w110 H) (NI.step (tw H 111 rfl) (NI.step (tw H 112 rfl) (NI.root (w113 H) (w236 H) (by decide)) (by decide)) (by decide)) (by decide)) (by decide)) d18_1 ?_
  intro T1 X1 e1
  refine G11 X1 K d18_4 (by decide) ?_
  refine G0 X1 K d18_7 rfl rfl ?_
  refine G65 X1 K (tw H 114 rfl) e1 B_1.1 (NI.no (w110 H) (w165 H) (NI.step (w110 H) (NI.step (tw H 111 rfl) (NI.step (tw H 112 rfl) (NI.root (w113 H) (w165 H) (by decide)) (by decide)) (by decide)) (by decide)) (by decide)) d18_8 ?_
  intro T2 X2 e2
  refine G15 31 X2 K d18_11 (by decide) (by decide) (by decide) ?_
  refine G0 X2 K d18_31 rfl rfl ?_
  refine G20 X2 K (W := 0) (tw H 115 rfl) (tw H 116 rfl) (mvT K.z (tw H 117 rfl)) (tw H 118 rfl) (tw H 119 rfl) (tw H 120 rfl) (tw H 121 rfl) (tw H 122 rfl) (w3 H) (tw H 123 rfl) (by decide) (rm19_55 H a1 a2 Ol0 B_1) e2 B_1.1 rfl rfl rfl (lenOf pd_10 rfl) rfl d18_32 (by decide) ?_
  rintro T3 v3 L3 X3 ⟨rfl, N3q, e3⟩
  have N3 := Fr.app (Fr.nil _) N3q
  show Go _ _ _ _ _ (mkF _ _ _ [.int 0])
  refine G15 44 X3 K d18_37 (by decide) (by decide) (by decide) ?_
  refine G0 X3 K d18_44 rfl rfl ?_
  refine G20 X3 K (W := 0) (tw H 124 rfl) (tw H 125 rfl) (mvT K.z (tw H 126 rfl)) (tw H 127 rfl) (tw H 128 rfl) (tw H 129 rfl) (tw H 130 rfl) (tw H 122 rfl) (w3 H) (tw H 131 rfl) (by decide) (rm20_59 H a1 a2 a3 a4 k1 a5 a6 a7 a8 Ol0 B_1 A_1 B_2 B_3 E_1) e3 B_1.1 rfl rfl rfl (lenOf pd_7 rfl) rfl d18_45 (by decide) ?_
  rintro T4 v4 L4 X4 ⟨bx1, kB1, rfl, N4q, Kc4, lz4_0, g1, g2, g3⟩
  have szbx1 := Nat.le_trans (Keep.refl h0 []).1 lz4_0
  have gebx1 := Nat.le_trans Ol0.2.1 lz4_0
  have so1 := Sd.one bx1
  obtain ⟨N4, Ol4, Kp4⟩ := ivK N3 Ol0 (Keep.refl h0 []) N4q Kc4 all0 all0
  show Go _ _ _ _ _ (mkF _ _ _ [.ref bx1])
  refine G14 X4 K (W := 0) (tw H 154 rfl) (tw H 155 rfl) (tw H 103 rfl) (tw H 156 rfl) (by decide) (rm24_61 H bx1 a3 a4 kB1 Ol4 g1) rfl rfl rfl rfl (lenOf pd_15 rfl) rfl d18_50 (by decide) ?_
  rintro T5 v5 L5 X5 ⟨bx2, rfl, N5q, Kc5, lz5_0, g4⟩
  have szbx2 := Nat.le_trans Kp4.1 lz5_0
  have gebx2 := Nat.le_trans Ol4.2.1 lz5_0
  have lkbx2 : bx1 < bx2 := Nat.lt_of_lt_of_le g1.lt lz5_0
  have so2 := so1.cons lkbx2
  obtain ⟨N5, Ol5, Kp5⟩ := ivK N4 Ol4 Kp4 N5q Kc5 all0 all0
  show Go _ _ _ _ _ (mkF _ _ _ [.ref bx2])
  refine G13 X5 K rfl rfl rfl d18_53 (by decide) (by decide) ?_
  exact ⟨bx2, rfl, N5, Kp5, szbx2, g4⟩
theorem rm17_63 (H : Hyp Z a0) (a1 a2 a3 a4 : Addr) (k1 : ClassId) (a5 a6 a7 a8 : Addr) (Ol0 : Old Z (ζ Z) h0) (B_1 : Ω0 Z h0 a1 (.int 2) (.ref a2) (.int 2)) (A_1 : Arv Z h0 a2 k1 (.object Q3) 10 [.ref a3, .ref a4, .null, .null, .null, .null, .null, .null, .null, .null] .null) (B_2 : Ω2 Z h0 a4 (.ref a5) (.ref a6)) (B_3 : Ω2 Z h0 a3 (.ref a7) (.ref a8)) (E_1 : Exa Z h0 a2 Q7) :
    Mt l Z M16 C73 1 (some (.object Q19)) [] ⟨7, 2, 4, 89⟩ #[.ref a1] h0 (fun v h L => (∃ (bx1 : Addr), v = some (.ref bx1) ∧ Fr (ζ Z) L ∧ Keep h0 h [] ∧ h0.size ≤ bx1 ∧ Ω6 Z h bx1 (.ref a3) (.ref a4))) := by
  refine g_be (pf pn24) (ef_0 a1) fun T0 K X0 e0 => ?_
  refine G0 X0 K d17_0 rfl rfl ?_
  refine G14 X0 K (W := 0) (tw H 105 rfl) (tw H 106 rfl) (w107 H) (tw H 108 rfl) (by decide) (rm18_62 H a1 a2 a3 a4 k1 a5 a6 a7 a8 Ol0 B_1 A_1 B_2 B_3 E_1) e0 rfl rfl rfl (lenOf pd_16 rfl) rfl d17_1 (by decide) ?_
  rintro T1 v1 L1 X1 ⟨bx1, rfl, N1q, Kc1, lz1_0, g1⟩
  have szbx1 := Nat.le_trans (Keep.refl h0 []).1 lz1_0
  have gebx1 := Nat.le_trans Ol0.2.1 lz1_0
  have so1 := Sd.one bx1
  obtain ⟨N1, Ol1, Kp1⟩ := ivK (Fr.nil _) Ol0 (Keep.refl h0 []) N1q Kc1 all0 all0
  show Go _ _ _ _ _ (mkF _ _ _ [.ref bx1])
  refine G13 X1 K rfl rfl rfl d17_4 (by decide) (by decide) ?_
  exact ⟨bx1, rfl, N1, Kp1, szbx1, g1⟩
theorem rm36_64 (H : Hyp Z a0) (Ol0 : Old Z (ζ Z) h0) :
    Mt l Z M41 C55 3 (some .int) [] ⟨0, 0, 0, 0⟩ #[.int 0, .int 2, .null] h0 (fun v h L => (v = some (.int 0) ∧ Fr (ζ Z) L ∧ h = h0)) := by
  refine g_be (pf pn26) ef_25 fun T0 K X0 e0 => ?_
  refine G1 X0 K d36_0 rfl ?_
  refine G11 X0 K d36_1 (by decide) ?_
  refine G1 X0 K d36_4 rfl ?_
  refine G1 X0 K d36_5 rfl ?_
  refine G19 16 X0 K d36_6 (by decide) (by decide) (by decide) ?_
  refine G1 X0 K d36_16 rfl ?_
  refine G18 X0 K d36_17 (by decide) (by decide) ?_
  exact ⟨rfl, (Fr.nil _), e0⟩
theorem rm35_65 (H : Hyp Z a0) (Ol0 : Old Z (ζ Z) h0) :
    Mt l Z M40 C67 2 (some .int) [] ⟨1, 0, 0, 14⟩ #[.int 0, .int 2] h0 (fun v h L => (v = some (.int 0) ∧ Fr (ζ Z) L ∧ h = h0)) := by
  refine g_be (pf pn25) ef_26 fun T0 K X0 e0 => ?_
  refine G1 X0 K d35_0 rfl ?_
  refine G1 X0 K d35_1 rfl ?_
  refine G28 X0 K d35_2 ?_
  refine G14 X0 K (W := 0) (tw H 264 rfl) (tw H 265 rfl) (tw H 266 rfl) (tw H 267 rfl) (by decide) (rm36_64 H Ol0) e0 rfl rfl rfl (lenOf pd_20 rfl) rfl d35_3 (by decide) ?_
  rintro T1 v1 L1 X1 ⟨rfl, N1q, e1⟩
  have N1 := Fr.app (Fr.nil _) N1q
  show Go _ _ _ _ _ (mkF _ _ _ [.int 0])
  refine G18 X1 K d35_6 (by decide) (by decide) ?_
  exact ⟨rfl, N1, e1⟩
theorem rm37_66 (H : Hyp Z a0) (a1 a2 a3 a4 : Addr) (k1 : ClassId) (Ol0 : Old Z (ζ Z) h0) (B_1 : Ω0 Z h0 a1 (.int 2) (.ref a2) (.int 2)) (A_1 : Arv Z h0 a2 k1 (.object Q3) 10 [.ref a3, .ref a4, .null, .null, .null, .null, .null, .null, .null, .null] .null) :
    Mt l Z M42 C68 2 (some (.object Q3)) [] ⟨0, 0, 0, 0⟩ #[.ref a1, .int 0] h0 (fun v h L => (v = some (.ref a3) ∧ Fr (ζ Z) L ∧ h = h0)) := by
  refine g_be (pf pn12) (ef_27 a1) fun T0 K X0 e0 => ?_
  refine G0 X0 K d37_0 rfl rfl ?_
  refine G2 X0 K (w25 H) Via.refl e0 B_1.2.2.1 d37_1 ?_
  intro T1 X1 e1
  refine G1 X1 K d37_4 rfl ?_
  refine G36 X1 K (v := (.ref a3)) e1 A_1 rfl (by decide) rfl d37_5 ?_
  refine G13 X1 K rfl rfl rfl d37_6 (by decide) (by decide) ?_
  exact ⟨rfl, (Fr.nil _), e1⟩
theorem rm34_67 (H : Hyp Z a0) (a1 a2 a3 a4 : Addr) (k1 : ClassId) (Ol0 : Old Z (ζ Z) h0) (B_1 : Ω0 Z h0 a1 (.int 2) (.ref a2) (.int 2)) (A_1 : Arv Z h0 a2 k1 (.object Q3) 10 [.ref a3, .ref a4, .null, .null, .null, .null, .null, .null, .null, .null] .null) :
    Mt l Z M39 C46 2 (some (.object Q3)) [] ⟨2, 0, 0, 27⟩ #[.ref a1, .int 0] h0 (fun v h L => (v = some (.ref a3) ∧ Fr (ζ Z) L ∧ h = h0)) := by
  refine g_be (pf pn12) (ef_27 a1) fun T0 K X0 e0 => ?_
  refine G1 X0 K d34_0 rfl ?_
  refine G0 X0 K d34_1 rfl rfl ?_
  refine G2 X0 K (w65 H) Via.refl e0 B_1.2.2.2 d34_2 ?_
  intro T1 X1 e1
  refine G14 X1 K (W := 0) (tw H 261 rfl) (tw H 262 rfl) (w163 H) (tw H 263 rfl) (by decide) (rm35_65 H Ol0) e1 rfl rfl rfl (lenOf pd_5 rfl) rfl d34_5 (by decide) ?_
  rintro T2 v2 L2 X2 ⟨rfl, N2q, e2⟩
  have N2 := Fr.app (Fr.nil _) N2q
  show Go _ _ _ _ _ (mkF _ _ _ [.int 0])
  refine G37 X2 K d34_8 rfl ?_
  refine G0 X2 K d34_9 rfl rfl ?_
  refine G1 X2 K d34_10 rfl ?_
  refine G8 X2 K (W := 0) (tw H 268 rfl) (tw H 269 rfl) (nf_self K (tw H 271 rfl)) (tw H 271 rfl) (tw H 270 rfl) (w3 H) (tw H 272 rfl) (by decide) (rm37_66 H a1 a2 a3 a4 k1 Ol0 B_1 A_1) e2 B_1.1 rfl rfl rfl (lenOf pd_21 rfl) rfl d34_11 (by decide) ?_
  rintro T3 v3 L3 X3 ⟨rfl, N3q, e3⟩
  have N3 := Fr.app N2 N3q
  show Go _ _ _ _ _ (mkF _ _ _ [.ref a3])
  refine G13 X3 K rfl rfl rfl d34_14 (by decide) (by decide) ?_
  exact ⟨rfl, N3, e3⟩
theorem rm38_68 (H : Hyp Z a0) (a1 a2 a3 : Addr) (Ol0 : Old Z (ζ Z) h0) (B_1 : Ω2 Z h0 a1 (.ref a2) (.ref a3)) :
    Mt l Z M43 C83 1 (some (.object Q19)) [] ⟨0, 0, 0, 0⟩ #[.ref a1] h0 (fun v h L => (v = some (.ref a3) ∧ Fr (ζ Z) L ∧ h = h0)) := by
  refine g_be (pf pn0) (ef_0 a1) fun T0 K X0 e0 => ?_
  refine G0 X0 K d38_0 rfl rfl ?_
  refine G2 X0 K (tw H 191 rfl) Via.refl e0 B_1.2.2 d38_1 ?_
  intro T1 X1 e1
  refine G13 X1 K rfl rfl rfl d38_4 (by decide) (by decide) ?_
  exact ⟨rfl, (Fr.nil _), e1⟩
theorem rm39_69 (H : Hyp Z a0) (a1 a2 a3 a4 a5 : Addr) (k1 : ClassId) (Ol0 : Old Z (ζ Z) h0) (B_1 : Ω3 Z h0 a1 (.ref a2) (.int 0)) (A_1 : Arv Z h0 a2 k1 (.object Q3) 3 [.ref a3, .ref a4, .ref a5] .null) :
    Mt l Z M45 C76 1 (some .int) [] ⟨0, 0, 0, 0⟩ #[.ref a1] h0 (fun v h L => (v = some (.int 3) ∧ Fr (ζ Z) L ∧ h = h0)) := by
  refine g_be (pf pn23) (ef_0 a1) fun T0 K X0 e0 => ?_
  refine G0 X0 K d39_0 rfl rfl ?_
  refine G2 X0 K (tw H 185 rfl) Via.refl e0 B_1.2.1 d39_1 ?_
  intro T1 X1 e1
  refine G21 X1 K e1 A_1 d39_4 ?_
  refine G18 X1 K d39_5 (by decide) (by decide) ?_
  exact ⟨rfl, (Fr.nil _), e1⟩
theorem rm40_70 (H : Hyp Z a0) (a1 a2 : Addr) (Ol0 : Old Z (ζ Z) h0) (B_1 : Ω0 Z h0 a1 (.int 2) (.ref a2) (.int 2)) :
    Mt l Z M46 C70 1 (some .int) [] ⟨0, 0, 0, 0⟩ #[.ref a1] h0 (fun v h L => (v = some (.int 2) ∧ Fr (ζ Z) L ∧ h = h0)) := by
  refine g_be (pf pn12) (ef_0 a1) fun T0 K X0 e0 => ?_
  refine G0 X0 K d40_0 rfl rfl ?_
  refine G2 X0 K (w65 H) Via.refl e0 B_1.2.2.2 d40_1 ?_
  intro T1 X1 e1
  refine G18 X1 K d40_4 (by decide) (by decide) ?_
  exact ⟨rfl, (Fr.nil _), e1⟩
theorem rm42_71 (H : Hyp Z a0) (a1 a2 a3 : Addr) (Ol0 : Old Z (ζ Z) h0) (B_1 : Ω7 Z h0 a1 .null (.int 0) (.int 0) (.int 0)) (ge_1 : (ζ Z) ≤ a1) (B_2 : Ω0 Z h0 a2 (.int 2) (.ref a3) (.int 2)) (ne_1 : a2 ≠ a1) :
    Mt l Z M49 C34 2 none [] ⟨1, 0, 0, 12⟩ #[.ref a1, .ref a2] h0 (fun v h L => (v = none ∧ Fr (ζ Z) L ∧ Keep h0 h [a1] ∧ Ω7 Z h a1 (.ref a2) (.int (-1)) (.int 2) (.int 0))) := by
  refine g_be (pf pn13) (ef_6 a1 a2) fun T0 K X0 e0 => ?_
  have nw_a2 : a2 ∉ [a1] := (ninS ne_1 nin0)
  refine G0 X0 K d42_0 rfl rfl ?_
  refine G0 X0 K d42_1 rfl rfl ?_
  refine G5 X0 K (w315 H) Via.refl e0 B_1.2.1 B_1.1 (Or.inr ⟨(tw H 316 rfl), rfl, rfl⟩) (w309 H) (ty := (.object Q8)) (by decide) rfl rfl d42_2 ?_
  intro T1 h1 X1 e1 W1 F1
  obtain ⟨N1, Ol1, Kp1⟩ := ivW (Fr.nil _) Ol0 (Keep.refl h0 [a1]) X1 W1 ge_1 (ow 0 rfl)
  have O1 := Ω7.s0 H B_1 W1
  refine G0 X1 K d42_5 rfl rfl ?_
  refine G40 X1 K (W := 0) (tw H 317 rfl) (w20 H) (w21 H) e1 rfl d42_6 (by decide) (Nat.le_of_eq rfl) (by decide) ?_
  intro T2 X2 e2
  refine G0 X2 K d42_9 rfl rfl ?_
  refine G3 X2 K (v := (-1)) d42_10 (by decide) ?_
  refine G5 X2 K (tw H 318 rfl) Via.refl e2 O1.2.2.1 O1.1 (Or.inl (tw H 319 rfl)) (w309 H) (ty := .int) (by decide) rfl rfl d42_11 ?_
  intro T3 h3 X3 e3 W3 F3
  obtain ⟨N3, Ol3, Kp3⟩ := ivW N1 Ol1 Kp1 X3 W3 ge_1 (ow 0 rfl)
  have O3 := Ω7.s1 H O1 W3
  refine G0 X3 K d42_14 rfl rfl ?_
  refine G0 X3 K d42_15 rfl rfl ?_
  refine G2 X3 K (w315 H) Via.refl e3 O3.2.1 d42_16 ?_
  intro T4 X4 e4
  have f1 := B_2.keep Kp3 nw_a2
  refine G2 X4 K (tw H 320 rfl) (Via.of (w64 H)) e4 f1.2.1 d42_19 ?_
  intro T5 X5 e5
  refine G5 X5 K (tw H 321 rfl) Via.refl e5 O3.2.2.2.1 O3.1 (Or.inl (tw H 322 rfl)) (w309 H) (ty := .int) (by decide) rfl rfl d42_22 ?_
  intro T6 h6 X6 e6 W6 F6
  obtain ⟨N6, Ol6, Kp6⟩ := ivW N3 Ol3 Kp3 X6 W6 ge_1 (ow 0 rfl)
  have O6 := Ω7.s2 H O3 W6
  refine G17 X6 K d42_25 (by decide) (by decide) ?_
  have Kp : Keep h0 T6.heap [a1] := by rw [e6]; exact Kp6
  exact ⟨rfl, N6, Kp, (by rw [e6]; exact O6)⟩
theorem rm41_72 (H : Hyp Z a0) (a1 a2 : Addr) (Ol0 : Old Z (ζ Z) h0) (B_1 : Ω0 Z h0 a1 (.int 2) (.ref a2) (.int 2)) :
    Mt l Z M48 C69 1 (some (.object Q47)) [] ⟨2, 1, 4, 26⟩ #[.ref a1] h0 (fun v h L => (∃ (b1 : Addr), v = some (.ref b1) ∧ Fr (ζ Z) L ∧ Keep h0 h [] ∧ h0.size ≤ b1 ∧ Ω7 Z h b1 (.ref a1) (.int (-1)) (.int 2) (.int 0))) := by
  refine g_be (pf pn12) (ef_0 a1) fun T0 K X0 e0 => ?_
  have nw_a1 : a1 ∉ [] := nin0
  refine G27 X0 K (tw H 308 rfl) (w309 H) (w310 H) e0 d41_0 (by decide) (by decide) ?_
  intro T1 h1 b1 X1 e1 E1 z1 A1 D1
  obtain ⟨sz1, ge1, Ol1, Kp1⟩ := ivE Ol0 (Keep.refl h0 []) E1 z1
  have so1 := Sd.one b1
  have O1 := Ω7.new H A1 D1
  refine G9 X1 K d41_3 rfl ?_
  refine G0 X1 K d41_4 rfl rfl ?_
  have f1 := B_1.keep Kp1 nw_a1
  have ne1 : a1 ≠ b1 := (Nat.ne_of_lt (Nat.lt_of_lt_of_le B_1.lt sz1))
  refine G23 X1 K (W := 1) rfl (tw H 311 rfl) (tw H 312 rfl) (w310 H) (tw H 314 rfl) (by decide) (rm42_71 H b1 a1 a2 Ol1 O1 ge1 f1 ne1) e1 rfl rfl rfl (lenOf pd_24 rfl) rfl d41_5 (by decide) ?_
  rintro T2 v2 L2 X2 ⟨rfl, N2q, Kc2, g1⟩
  obtain ⟨N2, Ol2, Kp2⟩ := ivK (Fr.nil _) Ol1 Kp1 N2q Kc2 (allS ge1 all0) (kaS (Or.inr sz1) all0)
  show Go _ _ _ _ _ (mkF _ _ _ [.ref b1])
  refine G13 X2 K rfl rfl rfl d41_8 (by decide) (by decide) ?_
  exact ⟨b1, rfl, N2, Kp2, sz1, g1⟩
theorem rm43_73 (H : Hyp Z a0) (a1 a2 a3 : Addr) (Ol0 : Old Z (ζ Z) h0) (B_1 : Ω7 Z h0 a1 (.ref a2) (.int (-1)) (.int 2) (.int 0)) (B_2 : Ω0 Z h0 a2 (.int 2) (.ref a3) (.int 2)) :
    Mt l Z M51 C39 1 (some .boolean) [] ⟨0, 0, 0, 0⟩ #[.ref a1] h0 (fun v h L => (v = some (.int 1) ∧ Fr (ζ Z) L ∧ h = h0)) := by
  refine g_be (pf pn13) (ef_0 a1) fun T0 K X0 e0 => ?_
  refine G0 X0 K d43_0 rfl rfl ?_
  refine G2 X0 K (w332 H) Via.refl e0 B_1.2.2.2.2 d43_1 ?_
  intro T1 X1 e1
  refine G0 X1 K d43_4 rfl rfl ?_
  refine G2 X1 K (w315 H) Via.refl e1 B_1.2.1 d43_5 ?_
  intro T2 X2 e2
  refine G61 X2 K (tw H 334 rfl) Via.refl e2 B_2.2.2.2 d43_8 ?_
  intro T3 X3 e3
  refine G10 X3 K d43_11 (by decide) ?_
  refine G3 X3 K (v := 1) d43_14 (by decide) ?_
  refine G6 19 X3 K d43_15 (by decide) (by decide) ?_
  refine G31 X3 K (by simp) (z' := 1) (by decide) d43_19 (by decide) (by decide) ?_
  exact ⟨rfl, (Fr.nil _), e3⟩
theorem rm45_74 (H : Hyp Z a0) (a1 a2 a3 : Addr) (Ol0 : Old Z (ζ Z) h0) (B_1 : Ω7 Z h0 a1 (.ref a2) (.int (-1)) (.int 2) (.int 0)) (B_2 : Ω0 Z h0 a2 (.int 2) (.ref a3) (.int 2)) :
    Mt l Z M54 C51 1 none [] ⟨0, 0, 0, 0⟩ #[.ref a1] h0 (fun v h L => (v = none ∧ Fr (ζ Z) L ∧ h = h0)) := by
  refine g_be (pf pn13) (ef_0 a1) fun T0 K X0 e0 => ?_
  refine G0 X0 K d45_0 rfl rfl ?_
  refine G2 X0 K (w315 H) Via.refl e0 B_1.2.1 d45_1 ?_
  intro T1 X1 e1
  refine G2 X1 K (tw H 320 rfl) (Via.of (w64 H)) e1 B_2.2.1 d45_4 ?_
  intro T2 X2 e2
  refine G0 X2 K d45_7 rfl rfl ?_
  refine G2 X2 K (tw H 321 rfl) Via.refl e2 B_1.2.2.2.1 d45_8 ?_
  intro T3 X3 e3
  refine G19 22 X3 K d45_11 (by decide) (by decide) (by decide) ?_
  refine G17 X3 K d45_22 (by decide) (by decide) ?_
  exact ⟨rfl, (Fr.nil _), e3⟩
theorem rm44_75 (H : Hyp Z a0) (a1 a2 a3 a4 a5 : Addr) (k1 : ClassId) (Ol0 : Old Z (ζ Z) h0) (B_1 : Ω7 Z h0 a1 (.ref a2) (.int (-1)) (.int 2) (.int 0)) (B_2 : Ω0 Z h0 a2 (.int 2) (.ref a3) (.int 2)) (A_1 : Arv Z h0 a3 k1 (.object Q3) 10 [.ref a4, .ref a5, .null, .null, .null, .null, .null, .null, .null, .null] .null) (ge_1 : (ζ Z) ≤ a1) (ne_1 : a3 ≠ a1) :
    Mt l Z M53 C7 3 (some (.object Q3)) [] ⟨1, 0, 0, 12⟩ #[.ref a1] h0 (fun v h L => (v = some (.ref a4) ∧ Fr (ζ Z) L ∧ Keep h0 h [a1] ∧ Ω7 Z h a1 (.ref a2) (.int 0) (.int 2) (.int 1))) := by
  refine g_be (pf pn13) (ef_14 a1) fun T0 K X0 e0 => ?_
  have nw_a3 : a3 ∉ [a1] := (ninS ne_1 nin0)
  refine G0 X0 K d44_0 rfl rfl ?_
  refine G8 X0 K (W := 0) (tw H 343 rfl) (tw H 344 rfl) (nf_self K (tw H 346 rfl)) (tw H 346 rfl) (tw H 345 rfl) (w310 H) (tw H 347 rfl) (by decide) (rm45_74 H a1 a2 a3 Ol0 B_1 B_2) e0 B_1.1 rfl rfl rfl (lenOf pd_0 rfl) rfl d44_1 (by decide) ?_
  rintro T1 v1 L1 X1 ⟨rfl, N1q, e1⟩
  have N1 := Fr.app (Fr.nil _) N1q
  show Go _ _ _ _ _ (mkF _ _ _ [])
  refine G0 X1 K d44_4 rfl rfl ?_
  refine G2 X1 K (w332 H) Via.refl e1 B_1.2.2.2.2 d44_5 ?_
  intro T2 X2 e2
  refine G24 X2 K (L' := #[vr a1, vi 0, un]) d44_8 rfl ?_
  refine G1 X2 K d44_9 rfl ?_
  refine G0 X2 K d44_10 rfl rfl ?_
  refine G2 X2 K (w315 H) Via.refl e2 B_1.2.1 d44_11 ?_
  intro T3 X3 e3
  refine G61 X3 K (tw H 334 rfl) Via.refl e3 B_2.2.2.2 d44_14 ?_
  intro T4 X4 e4
  refine G19 28 X4 K d44_17 (by decide) (by decide) (by decide) ?_
  refine G0 X4 K d44_28 rfl rfl ?_
  refine G2 X4 K (w315 H) Via.refl e4 B_1.2.1 d44_29 ?_
  intro T5 X5 e5
  refine G2 X5 K (tw H 348 rfl) Via.refl e5 B_2.2.2.1 d44_32 ?_
  intro T6 X6 e6
  refine G38 X6 K (L' := #[vr a1, vi 0, vr a3]) d44_35 rfl rfl ?_
  refine G1 X6 K d44_36 rfl ?_
  refine G0 X6 K d44_37 rfl rfl ?_
  refine G21 X6 K e6 A_1 d44_38 ?_
  refine G19 50 X6 K d44_39 (by decide) (by decide) (by decide) ?_
  refine G0 X6 K d44_50 rfl rfl ?_
  refine G1 X6 K d44_51 rfl ?_
  refine G3 X6 K (v := 1) d44_52 (by decide) ?_
  refine G16 X6 K d44_53 (z := 1) (by decide) ?_
  refine G5 X6 K (w332 H) Via.refl e6 B_1.2.2.2.2 B_1.1 (Or.inl (tw H 333 rfl)) (w309 H) (ty := .int) (by decide) rfl rfl d44_54 ?_
  intro T7 h7 X7 e7 W7 F7
  obtain ⟨N7, Ol7, Kp7⟩ := ivW N1 Ol0 (Keep.refl h0 [a1]) X7 W7 ge_1 (ow 0 rfl)
  have O7 := Ω7.s3 H B_1 W7
  refine G0 X7 K d44_57 rfl rfl ?_
  refine G0 X7 K d44_58 rfl rfl ?_
  refine G1 X7 K d44_59 rfl ?_
  refine G46 X7 K d44_60 rfl rfl ?_
  refine G5 X7 K (tw H 318 rfl) Via.refl e7 O7.2.2.1 O7.1 (Or.inl (tw H 319 rfl)) (w309 H) (ty := .int) (by decide) rfl rfl d44_61 ?_
  intro T8 h8 X8 e8 W8 F8
  obtain ⟨N8, Ol8, Kp8⟩ := ivW N7 Ol7 Kp7 X8 W8 ge_1 (ow 0 rfl)
  have O8 := Ω7.s1 H O7 W8
  have f1 := A_1.keep Kp8 nw_a3
  refine G36 X8 K (v := (.ref a4)) e8 f1 rfl (by decide) rfl d44_64 ?_
  refine G13 X8 K rfl rfl rfl d44_65 (by decide) (by decide) ?_
  have Kp : Keep h0 T8.heap [a1] := by rw [e8]; exact Kp8
  exact ⟨rfl, N8, Kp, (by rw [e8]; exact O8)⟩
theorem rm47_76 (H : Hyp Z a0) (a1 a2 : Addr) (Ol0 : Old Z (ζ Z) h0) (B_1 : Ω8 Z h0 a1 .null (.int 0) (.int 0) (.int 0)) (ge_1 : (ζ Z) ≤ a1) :
    Mt l Z M58 C31 3 none [] ⟨1, 0, 0, 12⟩ #[.ref a1, .ref a2, .int 3] h0 (fun v h L => (v = none ∧ Fr (ζ Z) L ∧ Keep h0 h [a1] ∧ Ω8 Z h a1 (.ref a2) (.int 3) (.int 0) (.int 0))) := by
  refine g_be (pf pn22) (ef_28 a1 a2) fun T0 K X0 e0 => ?_
  refine G0 X0 K d47_0 rfl rfl ?_
  refine G40 X0 K (W := 0) (tw H 365 rfl) (w20 H) (w21 H) e0 rfl d47_1 (by decide) (Nat.le_of_eq rfl) (by decide) ?_
  intro T1 X1 e1
  refine G0 X1 K d47_4 rfl rfl ?_
  refine G0 X1 K d47_5 rfl rfl ?_
  refine G5 X1 K (tw H 366 rfl) Via.refl e1 B_1.2.1 B_1.1 (Or.inr ⟨(tw H 367 rfl), rfl, rfl⟩) (w355 H) (ty := (.object Q19)) (by decide) rfl rfl d47_6 ?_
  intro T2 h2 X2 e2 W2 F2
  obtain ⟨N2, Ol2, Kp2⟩ := ivW (Fr.nil _) Ol0 (Keep.refl h0 [a1]) X2 W2 ge_1 (ow 0 rfl)
  have O2 := Ω8.s0 H B_1 W2
  refine G0 X2 K d47_9 rfl rfl ?_
  refine G1 X2 K d47_10 rfl ?_
  refine G5 X2 K (tw H 368 rfl) Via.refl e2 O2.2.2.1 O2.1 (Or.inr ⟨(tw H 369 rfl), rfl, rfl⟩) (w355 H) (ty := .int) (by decide) rfl rfl d47_11 ?_
  intro T3 h3 X3 e3 W3 F3
  obtain ⟨N3, Ol3, Kp3⟩ := ivW N2 Ol2 Kp2 X3 W3 ge_1 (ow 0 rfl)
  have O3 := Ω8.s1 H O2 W3
  refine G0 X3 K d47_14 rfl rfl ?_
  refine G3 X3 K (v := 0) d47_15 (by decide) ?_
  refine G5 X3 K (w370 H) Via.refl e3 O3.2.2.2.1 O3.1 (Or.inl (w371 H)) (w355 H) (ty := .int) (by decide) rfl rfl d47_16 ?_
  intro T4 h4 X4 e4 W4 F4
  obtain ⟨N4, Ol4, Kp4⟩ := ivW N3 Ol3 Kp3 X4 W4 ge_1 (ow 0 rfl)
  have O4 := Ω8.s2 H O3 W4
  refine G0 X4 K d47_19 rfl rfl ?_
  refine G3 X4 K (v := 0) d47_20 (by decide) ?_
  refine G5 X4 K (tw H 372 rfl) Via.refl e4 O4.2.2.2.2 O4.1 (Or.inr ⟨(tw H 373 rfl), rfl, rfl⟩) (w355 H) (ty := .boolean) (by decide) rfl rfl d47_21 ?_
  intro T5 h5 X5 e5 W5 F5
  obtain ⟨N5, Ol5, Kp5⟩ := ivW N4 Ol4 Kp4 X5 W5 ge_1 (ow 0 rfl)
  have O5 := Ω8.s3 H O4 W5
  refine G17 X5 K d47_24 (by decide) (by decide) ?_
  have Kp : Keep h0 T5.heap [a1] := by rw [e5]; exact Kp5
  exact ⟨rfl, N5, Kp, (by rw [e5]; exact O5)⟩
theorem rm46_77 (H : Hyp Z a0) (a1 a2 a3 a4 a5 : Addr) (k1 : ClassId) (Ol0 : Old Z (ζ Z) h0) (B_1 : Ω3 Z h0 a1 (.ref a2) (.int 0)) (A_1 : Arv Z h0 a2 k1 (.object Q3) 3 [.ref a3, .ref a4, .ref a5] .null) :
    Mt l Z M55 C56 1 (some (.object Q47)) [] ⟨2, 1, 4, 27⟩ #[.ref a1] h0 (fun v h L => (∃ (b1 : Addr), v = some (.ref b1) ∧ Fr (ζ Z) L ∧ Keep h0 h [] ∧ h0.size ≤ b1 ∧ Ω8 Z h b1 (.ref a1) (.int 3) (.int 0) (.int 0))) := by
  refine g_be (pf pn20) (ef_0 a1) fun T0 K X0 e0 => ?_
  have nw_a1 : a1 ∉ [] := nin0
  have nw_a2 : a2 ∉ [] := nin0
  refine G27 X0 K (tw H 354 rfl) (w355 H) (w356 H) e0 d46_0 (by decide) (by decide) ?_
  intro T1 h1 b1 X1 e1 E1 z1 A1 D1
  obtain ⟨sz1, ge1, Ol1, Kp1⟩ := ivE Ol0 (Keep.refl h0 []) E1 z1
  have so1 := Sd.one b1
  have O1 := Ω8.new H A1 D1
  refine G9 X1 K d46_3 rfl ?_
  refine G0 X1 K d46_4 rfl rfl ?_
  refine G0 X1 K d46_5 rfl rfl ?_
  have f1 := B_1.keep Kp1 nw_a1
  have f2 := A_1.keep Kp1 nw_a2
  refine G87 X1 K (W := 3) (tw H 357 rfl) (tw H 358 rfl) (tw H 359 rfl) (by decide) (tw H 360 rfl) (tw H 284 rfl) (w166 H) (tw H 288 rfl) (rm39_69 H a1 a2 a3 a4 a5 k1 Ol1 f1 f2) e1 f1.1 rfl rfl rfl (lenOf pd_23 rfl) rfl d46_6 (by decide) ?_
  rintro T2 v2 L2 X2 ⟨rfl, N2q, e2⟩
  have N2 := Fr.app (Fr.nil _) N2q
  show Go _ _ _ _ _ (mkF _ _ _ [.int 3, .ref a1, .ref b1, .ref b1])
  refine G23 X2 K (W := 1) rfl (tw H 361 rfl) (tw H 362 rfl) (w356 H) (tw H 364 rfl) (by decide) (rm47_76 H b1 a1 Ol1 O1 ge1) e2 rfl rfl rfl (lenOf pd_27 rfl) rfl d46_9 (by decide) ?_
  rintro T3 v3 L3 X3 ⟨rfl, N3q, Kc3, g1⟩
  obtain ⟨N3, Ol3, Kp3⟩ := ivK N2 Ol1 Kp1 N3q Kc3 (allS ge1 all0) (kaS (Or.inr sz1) all0)
  show Go _ _ _ _ _ (mkF _ _ _ [.ref b1])
  refine G13 X3 K rfl rfl rfl d46_12 (by decide) (by decide) ?_
  exact ⟨b1, rfl, N3, Kp3, sz1, g1⟩
theorem rm48_78 (H : Hyp Z a0) (a1 a2 : Addr) (Ol0 : Old Z (ζ Z) h0) (B_1 : Ω8 Z h0 a1 (.ref a2) (.int 3) (.int 0) (.int 0)) :
    Mt l Z M59 C40 1 (some .boolean) [] ⟨0, 0, 0, 0⟩ #[.ref a1] h0 (fun v h L => (v = some (.int 1) ∧ Fr (ζ Z) L ∧ h = h0)) := by
  refine g_be (pf pn22) (ef_0 a1) fun T0 K X0 e0 => ?_
  refine G0 X0 K d48_0 rfl rfl ?_
  refine G2 X0 K (w370 H) Via.refl e0 B_1.2.2.2.1 d48_1 ?_
  intro T1 X1 e1
  refine G0 X1 K d48_4 rfl rfl ?_
  refine G2 X1 K (tw H 368 rfl) Via.refl e1 B_1.2.2.1 d48_5 ?_
  intro T2 X2 e2
  refine G10 X2 K d48_8 (by decide) ?_
  refine G3 X2 K (v := 1) d48_11 (by decide) ?_
  refine G6 16 X2 K d48_12 (by decide) (by decide) ?_
  refine G31 X2 K (by simp) (z' := 1) (by decide) d48_16 (by decide) (by decide) ?_
  exact ⟨rfl, (Fr.nil _), e2⟩
theorem rm50_79 (H : Hyp Z a0) (a1 a2 a3 a4 a5 : Addr) (k1 : ClassId) (Ol0 : Old Z (ζ Z) h0) (B_1 : Ω3 Z h0 a1 (.ref a2) (.int 0)) (A_1 : Arv Z h0 a2 k1 (.object Q3) 3 [.ref a3, .ref a4, .ref a5] .null) :
    Mt l Z M61 C58 2 (some (.object Q3)) [] ⟨0, 0, 0, 0⟩ #[.ref a1, .int 0] h0 (fun v h L => (v = some (.ref a3) ∧ Fr (ζ Z) L ∧ h = h0)) := by
  refine g_be (pf pn23) (ef_27 a1) fun T0 K X0 e0 => ?_
  refine G0 X0 K d50_0 rfl rfl ?_
  refine G2 X0 K (tw H 185 rfl) Via.refl e0 B_1.2.1 d50_1 ?_
  intro T1 X1 e1
  refine G1 X1 K d50_4 rfl ?_
  refine G36 X1 K (v := (.ref a3)) e1 A_1 rfl (by decide) rfl d50_5 ?_
  refine G13 X1 K rfl rfl rfl d50_6 (by decide) (by decide) ?_
  exact ⟨rfl, (Fr.nil _), e1⟩
theorem rm49_80 (l : Launch) (H : Hyp Z a0) (a1 a2 a3 a4 a5 a6 : Addr) (k1 : ClassId) (h0 : Heap) (Ol0 : Old Z (ζ Z) h0) (B_1 : Ω8 Z h0 a1 (.ref a2) (.int 3) (.int 0) (.int 0)) (B_2 : Ω3 Z h0 a2 (.ref a3) (.int 0)) (A_1 : Arv Z h0 a3 k1 (.object Q3) 3 [.ref a4, .ref a5, .ref a6] .null) (ge_1 : (ζ Z) ≤ a1) :
    MtW l Z M60 C24 3 (some (.object Q3)) [((0 : Nat), (24 : Nat), (25 : Nat), (30 : Nat))] ⟨1, 0, 0, 13⟩ #[.ref a1] h0 (fun v h L => (v = some (.ref a4) ∧ Fr (ζ Z) L ∧ Keep h0 h [a1] ∧ Ω8 Z h a1 (.ref a2) (.int 3) (.int 1) (.int 0))) := by
  refine g_bodyW (pf pn22) ?_
  intro p e s m below meth c T0 K X0 e0
  refine g_entry ((ef_14 a1) m) ?_
  refine G0 X0 K d49_0 rfl rfl ?_
  refine G2 X0 K (w370 H) Via.refl e0 B_1.2.2.2.1 d49_1 ?_
  intro T1 X1 e1
  refine G24 X1 K (L' := #[vr a1, vi 0, un]) d49_4 rfl ?_
  refine G0 X1 K d49_5 rfl rfl ?_
  refine G2 X1 K (tw H 366 rfl) Via.refl e1 B_1.2.1 d49_6 ?_
  intro T2 X2 e2
  refine G1 X2 K d49_9 rfl ?_
  refine G20 X2 K (W := 0) (tw H 385 rfl) (tw H 254 rfl) (mvT K.z (tw H 255 rfl)) (tw H 386 rfl) (tw H 387 rfl) (tw H 388 rfl) (tw H 389 rfl) (w287 H) (w166 H) (tw H 390 rfl) (by decide) (rm50_79 H a2 a3 a4 a5 a6 k1 Ol0 B_2 A_1) e2 B_2.1 rfl rfl rfl (lenOf pd_21 rfl) rfl d49_10 (by decide) ?_
  rintro T3 v3 L3 X3 ⟨rfl, N3q, e3⟩
  have N3 := Fr.app (Fr.nil _) N3q
  show Go _ _ _ _ _ (mkF _ _ _ [.ref a4])
  refine G38 X3 K (L' := #[vr a1, vi 0, vr a4]) d49_15 rfl rfl ?_
  refine G0 X3 K d49_16 rfl rfl ?_
  refine G1 X3 K d49_17 rfl ?_
  refine G3 X3 K (v := 1) d49_18 (by decide) ?_
  refine G16 X3 K d49_19 (z := 1) (by decide) ?_
  refine G5 X3 K (w370 H) Via.refl e3 B_1.2.2.2.1 B_1.1 (Or.inl (w371 H)) (w355 H) (ty := .int) (by decide) rfl rfl d49_20 ?_
  intro T4 h4 X4 e4 W4 F4
  obtain ⟨N4, Ol4, Kp4⟩ := ivW N3 Ol0 (Keep.refl h0 [a1]) X4 W4 ge_1 (ow 0 rfl)
  have O4 := Ω8.s2 H B_1 W4
  refine G0 X4 K d49_23 rfl rfl ?_
  refine G13 X4 K rfl rfl rfl d49_24 (by decide) (by decide) ?_
  have Kp : Keep h0 T4.heap [a1] := by rw [e4]; exact Kp4
  exact ⟨rfl, N4, Kp, (by rw [e4]; exact O4)⟩
theorem rm51_81 (H : Hyp Z a0) (Ol0 : Old Z (ζ Z) h0) :
    Mt l Z M62 C23 1 (some (.object Q24)) [] ⟨0, 0, 0, 0⟩ #[.int 0] h0 (fun v h L => (v = some (.ref (el0 Z a0 128)) ∧ Fr (ζ Z) L ∧ h = h0)) := by
  refine g_be (pf pn5) ef_29 fun T0 K X0 e0 => ?_
  refine G1 X0 K d51_0 rfl ?_
  refine G29 X0 K (v := (-128)) d51_1 (by decide) ?_
  refine G10 X0 K d51_3 (by decide) ?_
  refine G1 X0 K d51_6 rfl ?_
  refine G33 X0 K (w395 H) e0 ((si_high H).ext Ol0.2) d51_7 ?_
  intro T1 X1 e1
  refine G10 X1 K d51_10 (by decide) ?_
  refine G33 X1 K (w397 H) e1 ((s2 H).ext Ol0.2) d51_13 ?_
  intro T2 X2 e2
  refine G1 X2 K d51_16 rfl ?_
  refine G34 X2 K (v := 128) d51_17 (by decide) ?_
  refine G16 X2 K d51_20 (z := 128) (by decide) ?_
  refine G55 X2 K e2 (let ⟨cl, q1, q2, q3⟩ := tb2 H 128 (by decide); ⟨cl, q1.ext Ol0.2, q2, q3⟩) rfl d51_21 ?_
  refine G13 X2 K rfl rfl rfl d51_22 (by decide) (by decide) ?_
  exact ⟨rfl, (Fr.nil _), e2⟩
theorem rm55_82 (H : Hyp Z a0) (a1 a2 : Addr) (Ol0 : Old Z (ζ Z) h0) (B_1 : Ω1 Z h0 a1 (.ref a2) (.int 0) (.int 0) (.int 0)) :
    Mt l Z M68 C48 1 (some .boolean) [] ⟨0, 0, 0, 0⟩ #[.ref a1] h0 (fun v h L => (v = some (.int 1) ∧ Fr (ζ Z) L ∧ h = h0)) := by
  refine g_be (pf pn7) (ef_0 a1) fun T0 K X0 e0 => ?_
  refine G33 X0 K (w42 H) e0 ((ivs0 H).ext Ol0.2) d55_0 ?_
  intro T1 X1 e1
  refine G11 X1 K d55_3 (feq (ivn0 H)).1 ?_
  refine G0 X1 K d55_6 rfl rfl ?_
  refine G2 X1 K (tw H 57 rfl) Via.refl e1 B_1.2.2.1 d55_7 ?_
  intro T2 X2 e2
  refine G11 X2 K d55_10 (by decide) ?_
  refine G3 X2 K (v := 1) d55_13 (by decide) ?_
  refine G6 18 X2 K d55_14 (by decide) (by decide) ?_
  refine G31 X2 K (by simp) (z' := 1) (by decide) d55_18 (by decide) (by decide) ?_
  exact ⟨rfl, (Fr.nil _), e2⟩
theorem rm56_83 (H : Hyp Z a0) (a1 : Addr) (k1 : ClassId) (Ol0 : Old Z (ζ Z) h0) (A_1 : Arv Z h0 a1 k1 .byte 1 [.int 97] (.int 0)) :
    Mt l Z M69 C28 1 (some .int) [] ⟨0, 0, 0, 0⟩ #[.ref a1] h0 (fun v h L => (v = some (.int 97) ∧ Fr (ζ Z) L ∧ h = h0)) := by
  refine g_be (pf pn8) (ef_0 a1) fun T0 K X0 e0 => ?_
  refine G0 X0 K d56_0 rfl rfl ?_
  refine G21 X0 K e0 A_1 d56_1 ?_
  refine G56 32 X0 K (i := 1) (a := 1) (o := 30) d56_2 (by decide) (by decide) (by decide) (by decide) ?_
  refine G0 X0 K d56_32 rfl rfl ?_
  refine G3 X0 K (v := 0) d56_33 (by decide) ?_
  refine G42 X0 K (v := (.int 97)) e0 A_1 (by decide) rfl d56_34 ?_
  refine G34 X0 K (v := 255) d56_35 (by decide) ?_
  refine G30 X0 K d56_38 (z := 97) (by decide) ?_
  refine G6 51 X0 K d56_39 (by decide) (by decide) ?_
  refine G18 X0 K d56_51 (by decide) (by decide) ?_
  exact ⟨rfl, (Fr.nil _), e0⟩
theorem rm54_84 (H : Hyp Z a0) (a1 a2 : Addr) (k1 : ClassId) (Ol0 : Old Z (ζ Z) h0) (B_1 : Ω1 Z h0 a1 (.ref a2) (.int 0) (.int 0) (.int 0)) (A_1 : Arv Z h0 a2 k1 .byte 1 [.int 97] (.int 0)) (ge_1 : (ζ Z) ≤ a1) :
    Mt l Z M67 C8 2 (some .int) [] ⟨1, 0, 0, 12⟩ #[.ref a1] h0 (fun v h L => (v = some (.int 97) ∧ Fr (ζ Z) L ∧ Keep h0 h [a1] ∧ Ω1 Z h a1 (.ref a2) (.int 0) (.int 97) (.int 0))) := by
  refine g_be (pf pn7) (ef_15 a1) fun T0 K X0 e0 => ?_
  refine G0 X0 K d54_0 rfl rfl ?_
  refine G2 X0 K (w416 H) Via.refl e0 B_1.2.2.2.1 d54_1 ?_
  intro T1 X1 e1
  refine G24 X1 K (L' := #[vr a1, vi 0]) d54_4 rfl ?_
  refine G1 X1 K d54_5 rfl ?_
  refine G11 X1 K d54_6 (by decide) ?_
  refine G0 X1 K d54_9 rfl rfl ?_
  refine G2 X1 K (w418 H) Via.refl e1 B_1.2.2.2.2 d54_10 ?_
  intro T2 X2 e2
  refine G11 X2 K d54_13 (by decide) ?_
  refine G0 X2 K d54_16 rfl rfl ?_
  refine G8 X2 K (W := 0) (w420 H) (w421 H) (nf_self K (w423 H)) (w423 H) (w422 H) (w28 H) (w424 H) (by decide) (rm55_82 H a1 a2 Ol0 B_1) e2 B_1.1 rfl rfl rfl (lenOf pd_10 rfl) rfl d54_17 (by decide) ?_
  rintro T3 v3 L3 X3 ⟨rfl, N3q, e3⟩
  have N3 := Fr.app (Fr.nil _) N3q
  show Go _ _ _ _ _ (mkF _ _ _ [.int 1])
  refine G11 X3 K d54_20 (by decide) ?_
  refine G0 X3 K d54_23 rfl rfl ?_
  refine G2 X3 K (w56 H) Via.refl e3 B_1.2.1 d54_24 ?_
  intro T4 X4 e4
  refine G14 X4 K (W := 0) (w425 H) (w426 H) (w45 H) (w427 H) (by decide) (rm56_83 H a2 k1 Ol0 A_1) e4 rfl rfl rfl (lenOf pd_29 rfl) rfl d54_27 (by decide) ?_
  rintro T5 v5 L5 X5 ⟨rfl, N5q, e5⟩
  have N5 := Fr.app N3 N5q
  show Go _ _ _ _ _ (mkF _ _ _ [.int 97])
  refine G6 40 X5 K d54_30 (by decide) (by decide) ?_
  refine G24 X5 K (L' := #[vr a1, vi 97]) d54_40 rfl ?_
  refine G1 X5 K d54_41 rfl ?_
  refine G15 53 X5 K d54_42 (by decide) (by decide) (by decide) ?_
  refine G0 X5 K d54_53 rfl rfl ?_
  refine G1 X5 K d54_54 rfl ?_
  refine G5 X5 K (w416 H) Via.refl e5 B_1.2.2.2.1 B_1.1 (Or.inl (w417 H)) (w29 H) (ty := .int) (by decide) rfl rfl d54_55 ?_
  intro T6 h6 X6 e6 W6 F6
  obtain ⟨N6, Ol6, Kp6⟩ := ivW N5 Ol0 (Keep.refl h0 [a1]) X6 W6 ge_1 (ow 0 rfl)
  have O6 := Ω1.s2 H B_1 W6
  refine G1 X6 K d54_58 rfl ?_
  refine G18 X6 K d54_59 (by decide) (by decide) ?_
  have Kp : Keep h0 T6.heap [a1] := by rw [e6]; exact Kp6
  exact ⟨rfl, N6, Kp, (by rw [e6]; exact O6)⟩
theorem rm53_85 (H : Hyp Z a0) (a1 a2 : Addr) (k1 : ClassId) (Ol0 : Old Z (ζ Z) h0) (B_1 : Ω1 Z h0 a1 (.ref a2) (.int 0) (.int 0) (.int 0)) (A_1 : Arv Z h0 a2 k1 .byte 1 [.int 97] (.int 0)) (ge_1 : (ζ Z) ≤ a1) :
    Mt l Z M65 C27 2 (some .int) [] ⟨2, 0, 0, 25⟩ #[.ref a1] h0 (fun v h L => (v = some (.int 97) ∧ Fr (ζ Z) L ∧ Keep h0 h [a1] ∧ Ω1 Z h a1 (.ref a2) (.int 0) (.int 97) (.int 0))) := by
  refine g_be (pf pn16) (ef_15 a1) fun T0 K X0 e0 => ?_
  refine G0 X0 K d53_0 rfl rfl ?_
  refine G51 8 X0 K d53_1 (by decide) (by decide) ?_
  refine G0 X0 K d53_8 rfl rfl ?_
  refine G8 X0 K (W := 0) (w410 H) (w411 H) (nf_top (args := #[]) (mvT K.z (w113 H))) (w413 H) (w414 H) (w28 H) (w415 H) (by decide) (rm54_84 H a1 a2 k1 Ol0 B_1 A_1 ge_1) e0 B_1.1 rfl rfl rfl (lenOf pd_23 rfl) rfl d53_9 (by decide) ?_
  rintro T1 v1 L1 X1 ⟨rfl, N1q, Kc1, g1⟩
  obtain ⟨N1, Ol1, Kp1⟩ := ivK (Fr.nil _) Ol0 (Keep.refl h0 [a1]) N1q Kc1 (allS ge_1 all0) (kaS (ow 0 rfl) all0)
  show Go _ _ _ _ _ (mkF _ _ _ [.int 97])
  refine G9 X1 K d53_12 rfl ?_
  refine G24 X1 K (L' := #[vr a1, vi 97]) d53_13 rfl ?_
  refine G1 X1 K d53_14 rfl ?_
  refine G29 X1 K (v := 16) d53_15 (by decide) ?_
  refine G57 X1 K d53_17 (z := 0) (by decide) ?_
  refine G58 X1 K d53_18 (z := 97) (by decide) ?_
  refine G18 X1 K d53_19 (by decide) (by decide) ?_
  exact ⟨rfl, N1, Kp1, g1⟩
theorem rm58_86 (H : Hyp Z a0) (a1 : Addr) (Ol0 : Old Z (ζ Z) h0) (B_1 : Ω5 Z h0 a1 (.float 1061158912) .null (.int 0) (.int 0) (.int 0)) (ge_1 : (ζ Z) ≤ a1) :
    Mt l Z M71 C6 14 (some (.array (.object Q6))) [] ⟨0, 1, 16, 0⟩ #[.ref a1] h0 (fun v h L => (∃ (b4 : Addr) (kA4 : ClassId), v = some (.ref b4) ∧ Fr (ζ Z) L ∧ Keep h0 h [a1] ∧ h0.size ≤ b4 ∧ Ω5 Z h a1 (.float 1061158912) (.ref b4) (.int 12) (.int 0) (.int 0) ∧ Arv Z h b4 kA4 (.object Q6) 16 [.null, .null, .null, .null, .null, .null, .null, .null, .null, .null, .null, .null, .null, .null, .null, .null] .null ∧ Exa Z h b4 Q25 ∧ Ovr Z kA4 Q6)) := by
  refine g_be (pf pn16) (ef_30 a1) fun T0 K X0 e0 => ?_
  refine G0 X0 K d58_0 rfl rfl ?_
  refine G2 X0 K (w433 H) Via.refl e0 B_1.2.2.1 d58_1 ?_
  intro T1 X1 e1
  refine G38 X1 K (L' := #[vr a1, vn, un, un, un, un, un, un, un, un, un, un, un, un]) d58_4 rfl rfl ?_
  refine G0 X1 K d58_5 rfl rfl ?_
  refine G52 X1 K d58_6 ?_
  refine G3 X1 K (v := 0) d58_9 (by decide) ?_
  refine G6 15 X1 K d58_10 (by decide) (by decide) ?_
  refine G24 X1 K (L' := #[vr a1, vn, vi 0, un, un, un, un, un, un, un, un, un, un, un]) d58_15 rfl ?_
  refine G0 X1 K d58_16 rfl rfl ?_
  refine G2 X1 K (w440 H) Via.refl e1 B_1.2.2.2.1 d58_17 ?_
  intro T2 X2 e2
  refine G24 X2 K (L' := #[vr a1, vn, vi 0, vi 0, un, un, un, un, un, un, un, un, un, un]) d58_20 rfl ?_
  refine G3 X2 K (v := 0) d58_21 (by decide) ?_
  refine G12 X2 K (L' := #[vr a1, vn, vi 0, vi 0, un, vi 0, un, un, un, un, un, un, un, un]) d58_22 rfl ?_
  refine G1 X2 K d58_24 rfl ?_
  refine G15 67 X2 K d58_25 (by decide) (by decide) (by decide) ?_
  refine G1 X2 K d58_67 rfl ?_
  refine G15 77 X2 K d58_68 (by decide) (by decide) (by decide) ?_
  refine G29 X2 K (v := 16) d58_77 (by decide) ?_
  refine G12 X2 K (L' := #[vr a1, vn, vi 0, vi 0, vi 16, vi 0, un, un, un, un, un, un, un, un]) d58_79 rfl ?_
  refine G29 X2 K (v := 12) d58_81 (by decide) ?_
  refine G12 X2 K (L' := #[vr a1, vn, vi 0, vi 0, vi 16, vi 12, un, un, un, un, un, un, un, un]) d58_83 rfl ?_
  refine G4 X2 K d58_85 rfl ?_
  refine G15 125 X2 K d58_87 (by decide) (by decide) (by decide) ?_
  refine G0 X2 K d58_125 rfl rfl ?_
  refine G4 X2 K d58_126 rfl ?_
  refine G5 X2 K (w440 H) Via.refl e2 B_1.2.2.2.1 B_1.1 (Or.inl (tw H 441 rfl)) (w211 H) (ty := .int) (by decide) rfl rfl d58_128 ?_
  intro T3 h3 X3 e3 W3 F3
  obtain ⟨N3, Ol3, Kp3⟩ := ivW (Fr.nil _) Ol0 (Keep.refl h0 [a1]) X3 W3 ge_1 (ow 0 rfl)
  have O3 := Ω5.s2 H B_1 W3
  refine G4 X3 K d58_131 rfl ?_
  refine G54 X3 K (cap := 16) (vs := [.null, .null, .null, .null, .null, .null, .null, .null, .null, .null, .null, .null, .null, .null, .null, .null]) (ad := Q25) (by decide) (w442 H) (tw H 443 rfl) e3 d58_133 (by decide) (by decide) rfl (by decide) (by decide) (by decide) ?_
  intro T4 h4 b4 kA4 X4 e4 E4 z4 A4 O4 B4
  obtain ⟨sz4, ge4, Ol4, Kp4⟩ := ivE Ol3 Kp3 E4 z4
  have so1 := Sd.one b4
  refine G26 X4 K (L' := #[vr a1, vn, vi 0, vi 0, vi 16, vi 12, vr b4, un, un, un, un, un, un, un]) d58_136 rfl rfl ?_
  refine G0 X4 K d58_138 rfl rfl ?_
  refine G7 X4 K d58_139 rfl rfl ?_
  have f1 := (O3.ext E4)
  refine G5 X4 K (w433 H) Via.refl e4 f1.2.2.1 f1.1 (Or.inl (tw H 434 rfl)) (w211 H) (ty := (.array (.object Q6))) (by decide) rfl rfl d58_141 ?_
  intro T5 h5 X5 e5 W5 F5
  obtain ⟨N5, Ol5, Kp5⟩ := ivW N3 Ol4 Kp4 X5 W5 ge_1 (ow 0 rfl)
  have O5 := Ω5.s1 H f1 W5
  refine G0 X5 K d58_144 rfl rfl ?_
  refine G74 353 X5 K d58_145 (by decide) (by decide) ?_
  refine G7 X5 K d58_353 rfl rfl ?_
  refine G13 X5 K rfl rfl rfl d58_355 (by decide) (by decide) ?_
  have Kp : Keep h0 T5.heap [a1] := by rw [e5]; exact Kp5
  have ne1 : a1 ≠ b4 := (Nat.ne_of_lt (Nat.lt_of_lt_of_le B_1.lt sz4))
  have f2 := (A4.other W5 (Ne.symm ne1))
  have f3 := (B4.wr W5)
  exact ⟨b4, kA4, rfl, N5, Kp, sz4, (by rw [e5]; exact O5), (by rw [e5]; exact f2), (by rw [e5]; exact f3), O4⟩
theorem rm60_87 (H : Hyp Z a0) (a1 a2 : Addr) (Ol0 : Old Z (ζ Z) h0) (B_1 : Ω9 Z h0 a1 (.int 0) .null .null .null) (ge_1 : (ζ Z) ≤ a1) :
    Mt l Z M73 C18 5 none [] ⟨1, 0, 0, 12⟩ #[.ref a1, .int 97, .ref a2, (.ref (el0 Z a0 128)), .null] h0 (fun v h L => (v = none ∧ Fr (ζ Z) L ∧ Keep h0 h [a1] ∧ Ω9 Z h a1 (.int 97) (.ref a2) (.ref (el0 Z a0 128)) .null)) := by
  refine g_be (pf pn17) (ef_31 a1 a2 (el0 Z a0 128)) fun T0 K X0 e0 => ?_
  refine G0 X0 K d60_0 rfl rfl ?_
  refine G40 X0 K (W := 0) (w455 H) (w20 H) (w21 H) e0 rfl d60_1 (by decide) (Nat.le_of_eq rfl) (by decide) ?_
  intro T1 X1 e1
  refine G0 X1 K d60_4 rfl rfl ?_
  refine G1 X1 K d60_5 rfl ?_
  refine G5 X1 K (w456 H) Via.refl e1 B_1.2.1 B_1.1 (Or.inr ⟨(w457 H), rfl, rfl⟩) (w449 H) (ty := .int) (by decide) rfl rfl d60_6 ?_
  intro T2 h2 X2 e2 W2 F2
  obtain ⟨N2, Ol2, Kp2⟩ := ivW (Fr.nil _) Ol0 (Keep.refl h0 [a1]) X2 W2 ge_1 (ow 0 rfl)
  have O2 := Ω9.s0 H B_1 W2
  refine G0 X2 K d60_9 rfl rfl ?_
  refine G0 X2 K d60_10 rfl rfl ?_
  refine G5 X2 K (w458 H) Via.refl e2 O2.2.2.1 O2.1 (Or.inr ⟨(w459 H), rfl, rfl⟩) (w449 H) (ty := (.object Q3)) (by decide) rfl rfl d60_11 ?_
  intro T3 h3 X3 e3 W3 F3
  obtain ⟨N3, Ol3, Kp3⟩ := ivW N2 Ol2 Kp2 X3 W3 ge_1 (ow 0 rfl)
  have O3 := Ω9.s1 H O2 W3
  refine G0 X3 K d60_14 rfl rfl ?_
  refine G0 X3 K d60_15 rfl rfl ?_
  refine G5 X3 K (w460 H) Via.refl e3 O3.2.2.2.1 O3.1 (Or.inl (w461 H)) (w449 H) (ty := (.object Q3)) (by decide) rfl rfl d60_16 ?_
  intro T4 h4 X4 e4 W4 F4
  obtain ⟨N4, Ol4, Kp4⟩ := ivW N3 Ol3 Kp3 X4 W4 ge_1 (ow 0 rfl)
  have O4 := Ω9.s2 H O3 W4
  refine G0 X4 K d60_19 rfl rfl ?_
  refine G7 X4 K d60_20 rfl rfl ?_
  refine G5 X4 K (w462 H) Via.refl e4 O4.2.2.2.2 O4.1 (Or.inl (w463 H)) (w449 H) (ty := (.object Q6)) (by decide) rfl rfl d60_22 ?_
  intro T5 h5 X5 e5 W5 F5
  obtain ⟨N5, Ol5, Kp5⟩ := ivW N4 Ol4 Kp4 X5 W5 ge_1 (ow 0 rfl)
  have O5 := Ω9.s3 H O4 W5
  refine G17 X5 K d60_25 (by decide) (by decide) ?_
  have Kp : Keep h0 T5.heap [a1] := by rw [e5]; exact Kp5
  exact ⟨rfl, N5, Kp, (by rw [e5]; exact O5)⟩
theorem rm59_88 (H : Hyp Z a0) (a1 a2 : Addr) (Ol0 : Old Z (ζ Z) h0) :
    Mt l Z M72 C36 5 (some (.object Q6)) [] ⟨2, 1, 4, 29⟩ #[.ref a1, .int 97, .ref a2, (.ref (el0 Z a0 128)), .null] h0 (fun v h L => (∃ (b1 : Addr), v = some (.ref b1) ∧ Fr (ζ Z) L ∧ Keep h0 h [] ∧ h0.size ≤ b1 ∧ Ω9 Z h b1 (.int 97) (.ref a2) (.ref (el0 Z a0 128)) .null)) := by
  refine g_be (pf pn16) (ef_31 a1 a2 (el0 Z a0 128)) fun T0 K X0 e0 => ?_
  refine G27 X0 K (w442 H) (w449 H) (w450 H) e0 d59_0 (by decide) (by decide) ?_
  intro T1 h1 b1 X1 e1 E1 z1 A1 D1
  obtain ⟨sz1, ge1, Ol1, Kp1⟩ := ivE Ol0 (Keep.refl h0 []) E1 z1
  have so1 := Sd.one b1
  have O1 := Ω9.new H A1 D1
  refine G9 X1 K d59_3 rfl ?_
  refine G1 X1 K d59_4 rfl ?_
  refine G0 X1 K d59_5 rfl rfl ?_
  refine G0 X1 K d59_6 rfl rfl ?_
  refine G7 X1 K d59_7 rfl rfl ?_
  refine G23 X1 K (W := 1) rfl (w451 H) (w452 H) (w450 H) (w454 H) (by decide) (rm60_87 H b1 a2 Ol1 O1 ge1) e1 rfl rfl rfl (lenOf pd_32 rfl) rfl d59_9 (by decide) ?_
  rintro T2 v2 L2 X2 ⟨rfl, N2q, Kc2, g1⟩
  obtain ⟨N2, Ol2, Kp2⟩ := ivK (Fr.nil _) Ol1 Kp1 N2q Kc2 (allS ge1 all0) (kaS (Or.inr sz1) all0)
  show Go _ _ _ _ _ (mkF _ _ _ [.ref b1])
  refine G13 X2 K rfl rfl rfl d59_12 (by decide) (by decide) ?_
  exact ⟨b1, rfl, N2, Kp2, sz1, g1⟩
theorem rm61_89 (H : Hyp Z a0) (a1 : Addr) (Ol0 : Old Z (ζ Z) h0) :
    Mt l Z M74 jdk_69_method_52_code 2 none [] ⟨0, 0, 0, 0⟩ #[.ref a1, .int 1] h0 (fun v h L => (v = none ∧ Fr (ζ Z) L ∧ h = h0)) := by
  refine g_be (pf pn16) (ef_32 a1) fun T0 K X0 e0 => ?_
  refine G17 X0 K d61_0 (by decide) (by decide) ?_
  exact ⟨rfl, (Fr.nil _), e0⟩
theorem rm57_90 (H : Hyp Z a0) (a1 a2 : Addr) (Ol0 : Old Z (ζ Z) h0) (B_1 : Ω5 Z h0 a1 (.float 1061158912) .null (.int 0) (.int 0) (.int 0)) (ge_1 : (ζ Z) ≤ a1) :
    Mt l Z M70 C3 13 (some (.object Q3)) [] ⟨3, 2, 20, 47⟩ #[.ref a1, .int 97, .ref a2, (.ref (el0 Z a0 128)), .int 0, .int 1] h0 (fun v h L => (∃ (bx1 bx2 : Addr) (kB1 : ClassId), v = some .null ∧ Fr (ζ Z) L ∧ Keep h0 h [a1] ∧ h0.size ≤ bx1 ∧ bx1 < bx2 ∧ Ω5 Z h a1 (.float 1061158912) (.ref bx1) (.int 12) (.int 1) (.int 1) ∧ Arv Z h bx1 kB1 (.object Q6) 16 [.null, .ref bx2, .null, .null, .null, .null, .null, .null, .null, .null, .null, .null, .null, .null, .null, .null] .null ∧ Exa Z h bx1 Q25 ∧ Ovr Z kB1 Q6 ∧ Ω9 Z h bx2 (.int 97) (.ref a2) (.ref (el0 Z a0 128)) .null)) := by
  refine g_be (pf pn16) (ef_33 a1 a2 (el0 Z a0 128)) fun T0 K X0 e0 => ?_
  refine G0 X0 K d57_0 rfl rfl ?_
  refine G2 X0 K (w433 H) Via.refl e0 B_1.2.2.1 d57_1 ?_
  intro T1 X1 e1
  refine G9 X1 K d57_4 rfl ?_
  refine G26 X1 K (L' := #[vr a1, vi 97, vr a2, vr (el0 Z a0 128), vi 0, vi 1, vn, un, un, un, un, un, un]) d57_5 rfl rfl ?_
  refine G74 19 X1 K d57_7 (by decide) (by decide) ?_
  refine G0 X1 K d57_19 rfl rfl ?_
  refine G8 X1 K (W := 0) (tw H 435 rfl) (tw H 436 rfl) (nf_self K (tw H 438 rfl)) (tw H 438 rfl) (tw H 437 rfl) (w212 H) (tw H 439 rfl) (by decide) (rm58_86 H a1 Ol0 B_1 ge_1) e1 B_1.1 rfl rfl rfl (lenOf pd_31 rfl) rfl d57_20 (by decide) ?_
  rintro T2 v2 L2 X2 ⟨bx1, kB1, rfl, N2q, Kc2, lz2_0, g1, g2, g3, g4⟩
  have szbx1 := Nat.le_trans (Keep.refl h0 [a1]).1 lz2_0
  have gebx1 := Nat.le_trans Ol0.2.1 lz2_0
  have so1 := Sd.one bx1
  obtain ⟨N2, Ol2, Kp2⟩ := ivK (Fr.nil _) Ol0 (Keep.refl h0 [a1]) N2q Kc2 (allS ge_1 all0) (kaS (ow 0 rfl) all0)
  show Go _ _ _ _ _ (mkF _ _ _ [.ref bx1])
  refine G9 X2 K d57_23 rfl ?_
  refine G26 X2 K (L' := #[vr a1, vi 97, vr a2, vr (el0 Z a0 128), vi 0, vi 1, vr bx1, un, un, un, un, un, un]) d57_24 rfl rfl ?_
  refine G21 X2 K rfl g2 d57_26 ?_
  refine G12 X2 K (L' := #[vr a1, vi 97, vr a2, vr (el0 Z a0 128), vi 0, vi 1, vr bx1, un, vi 16, un, un, un, un]) d57_27 rfl ?_
  refine G7 X2 K d57_29 rfl rfl ?_
  refine G4 X2 K d57_31 rfl ?_
  refine G3 X2 K (v := 1) d57_33 (by decide) ?_
  refine G45 X2 K d57_34 (z := 15) (by decide) ?_
  refine G1 X2 K d57_35 rfl ?_
  refine G30 X2 K d57_36 (z := 1) (by decide) ?_
  refine G9 X2 K d57_37 rfl ?_
  refine G12 X2 K (L' := #[vr a1, vi 97, vr a2, vr (el0 Z a0 128), vi 0, vi 1, vr bx1, un, vi 16, vi 1, un, un, un]) d57_38 rfl ?_
  refine G36 X2 K (v := .null) rfl g2 rfl (by decide) rfl d57_40 ?_
  refine G9 X2 K d57_41 rfl ?_
  refine G26 X2 K (L' := #[vr a1, vi 97, vr a2, vr (el0 Z a0 128), vi 0, vi 1, vr bx1, vn, vi 16, vi 1, un, un, un]) d57_42 rfl rfl ?_
  refine G52 X2 K d57_44 ?_
  refine G7 X2 K d57_47 rfl rfl ?_
  refine G4 X2 K d57_49 rfl ?_
  refine G0 X2 K d57_51 rfl rfl ?_
  refine G1 X2 K d57_52 rfl ?_
  refine G0 X2 K d57_53 rfl rfl ?_
  refine G0 X2 K d57_54 rfl rfl ?_
  refine G28 X2 K d57_55 ?_
  refine G8 X2 K (W := 2) (w444 H) (w445 H) (nf_self K (w447 H)) (w447 H) (w446 H) (w212 H) (w448 H) (by decide) (rm59_88 H a1 a2 Ol2) rfl g1.1 rfl rfl rfl (lenOf pd_33 rfl) rfl d57_56 (by decide) ?_
  rintro T3 v3 L3 X3 ⟨bx2, rfl, N3q, Kc3, lz3_0, g5⟩
  have szbx2 := Nat.le_trans Kp2.1 lz3_0
  have gebx2 := Nat.le_trans Ol2.2.1 lz3_0
  have lkbx2 : bx1 < bx2 := Nat.lt_of_lt_of_le g2.lt lz3_0
  have so2 := so1.cons lkbx2
  obtain ⟨N3, Ol3, Kp3⟩ := ivK N2 Ol2 Kp2 N3q Kc3 all0 all0
  show Go _ _ _ _ _ (mkF _ _ _ [.ref bx2, .int 1, .ref bx1])
  have f1 := (g2.keep Kc3 nin0)
  refine G32 X3 K (vs' := [.null, .ref bx2, .null, .null, .null, .null, .null, .null, .null, .null, .null, .null, .null, .null, .null, .null]) rfl f1 (Or.inr ⟨_, rfl, g4, (Ins.self g5.1)⟩) (by decide) (Nat.le_of_ble_eq_true rfl) rfl d57_59 ?_
  intro T4 h4 X4 e4 W4 F4
  obtain ⟨N4, Ol4, Kp4⟩ := ivW N3 Ol3 Kp3 X4 W4 gebx1 (Or.inr szbx1)
  refine G6 259 X4 K d57_60 (by decide) (by decide) ?_
  refine G0 X4 K d57_259 rfl rfl ?_
  refine G9 X4 K d57_260 rfl ?_
  have ne1 : a1 ≠ bx1 := (Nat.ne_of_lt (Nat.lt_of_lt_of_le B_1.lt szbx1))
  have f2 := ((g1.keep Kc3 nin0).other W4 ne1)
  refine G2 X4 K (w464 H) Via.refl e4 f2.2.2.2.2.1 d57_261 ?_
  intro T5 X5 e5
  refine G3 X5 K (v := 1) d57_264 (by decide) ?_
  refine G16 X5 K d57_265 (z := 1) (by decide) ?_
  refine G5 X5 K (w464 H) Via.refl e5 f2.2.2.2.2.1 f2.1 (Or.inl (w465 H)) (w211 H) (ty := .int) (by decide) rfl rfl d57_266 ?_
  intro T6 h6 X6 e6 W6 F6
  obtain ⟨N6, Ol6, Kp6⟩ := ivW N4 Ol4 Kp4 X6 W6 ge_1 (ow 0 rfl)
  have O6 := Ω5.s3 H f2 W6
  refine G0 X6 K d57_269 rfl rfl ?_
  refine G9 X6 K d57_270 rfl ?_
  refine G2 X6 K (w466 H) Via.refl e6 O6.2.2.2.2.2 d57_271 ?_
  intro T7 X7 e7
  refine G3 X7 K (v := 1) d57_274 (by decide) ?_
  refine G16 X7 K d57_275 (z := 1) (by decide) ?_
  refine G46 X7 K d57_276 rfl rfl ?_
  refine G5 X7 K (w466 H) Via.refl e7 O6.2.2.2.2.2 O6.1 (Or.inl (w467 H)) (w211 H) (ty := .int) (by decide) rfl rfl d57_277 ?_
  intro T8 h8 X8 e8 W8 F8
  obtain ⟨N8, Ol8, Kp8⟩ := ivW N6 Ol6 Kp6 X8 W8 ge_1 (ow 0 rfl)
  have O8 := Ω5.s4 H O6 W8
  refine G0 X8 K d57_280 rfl rfl ?_
  refine G2 X8 K (w440 H) Via.refl e8 O8.2.2.2.1 d57_281 ?_
  intro T9 X9 e9
  refine G19 292 X9 K d57_284 (by decide) (by decide) (by decide) ?_
  refine G0 X9 K d57_292 rfl rfl ?_
  refine G4 X9 K d57_293 rfl ?_
  refine G8 X9 K (W := 0) (w468 H) (w469 H) (nf_self K (w471 H)) (w471 H) (w470 H) (w212 H) (w472 H) (by decide) (rm61_89 H a1 Ol8) e9 O8.1 rfl rfl rfl (lenOf pd_34 rfl) rfl d57_295 (by decide) ?_
  rintro T10 v10 L10 X10 ⟨rfl, N10q, e10⟩
  have N10 := Fr.app N8 N10q
  show Go _ _ _ _ _ (mkF _ _ _ [])
  refine G28 X10 K d57_298 ?_
  refine G13 X10 K rfl rfl rfl d57_299 (by decide) (by decide) ?_
  have Kp : Keep h0 T10.heap [a1] := by rw [e10]; exact Kp8
  have f3 := ((F4.other W6 (Ne.symm ne1)).other W8 (Ne.symm ne1))
  have f4 := ((((g3.keep Kc3).wr W4).wr W6).wr W8)
  have ne2 := so2.ne 0 1 rfl rfl rfl
  have ne3 : a1 ≠ bx2 := (Nat.ne_of_lt (Nat.lt_of_lt_of_le B_1.lt szbx2))
  have f5 := (((g5.other W4 ne2).other W6 (Ne.symm ne3)).other W8 (Ne.symm ne3))
  exact ⟨bx1, bx2, kB1, rfl, N10, Kp, szbx1, lkbx2, (by rw [e10]; exact O8), (by rw [e10]; exact f3), (by rw [e10]; exact f4), g4, (by rw [e10]; exact f5)⟩
theorem rm52_91 (H : Hyp Z a0) (a1 a2 a3 : Addr) (k1 : ClassId) (Ol0 : Old Z (ζ Z) h0) (B_1 : Ω1 Z h0 a2 (.ref a3) (.int 0) (.int 0) (.int 0)) (A_1 : Arv Z h0 a3 k1 .byte 1 [.int 97] (.int 0)) (ge_1 : (ζ Z) ≤ a2) (B_2 : Ω5 Z h0 a1 (.float 1061158912) .null (.int 0) (.int 0) (.int 0)) (ne_1 : a1 ≠ a2) (ge_2 : (ζ Z) ≤ a1) (ne_2 : a2 ≠ a1) :
    Mt l Z M64 C32 3 (some (.object Q3)) [] ⟨4, 2, 20, 71⟩ #[.ref a1, .ref a2, (.ref (el0 Z a0 128))] h0 (fun v h L => (∃ (bx1 bx2 : Addr) (kB1 : ClassId), v = some .null ∧ Fr (ζ Z) L ∧ Keep h0 h [a2, a1] ∧ h0.size ≤ bx1 ∧ bx1 < bx2 ∧ Ω1 Z h a2 (.ref a3) (.int 0) (.int 97) (.int 0) ∧ Ω5 Z h a1 (.float 1061158912) (.ref bx1) (.int 12) (.int 1) (.int 1) ∧ Arv Z h bx1 kB1 (.object Q6) 16 [.null, .ref bx2, .null, .null, .null, .null, .null, .null, .null, .null, .null, .null, .null, .null, .null, .null] .null ∧ Exa Z h bx1 Q25 ∧ Ovr Z kB1 Q6 ∧ Ω9 Z h bx2 (.int 97) (.ref a2) (.ref (el0 Z a0 128)) .null)) := by
  refine g_be (pf pn16) (ef_16 a1 a2 (el0 Z a0 128)) fun T0 K X0 e0 => ?_
  refine G0 X0 K d52_0 rfl rfl ?_
  refine G0 X0 K d52_1 rfl rfl ?_
  refine G14 X0 K (W := 1) (w407 H) (w408 H) (w212 H) (w409 H) (by decide) (rm53_85 H a2 a3 k1 Ol0 B_1 A_1 ge_1) e0 rfl rfl rfl (lenOf pd_30 rfl) rfl d52_2 (by decide) ?_
  rintro T1 v1 L1 X1 ⟨rfl, N1q, Kc1, g1⟩
  obtain ⟨N1, Ol1, Kp1⟩ := ivK (Fr.nil _) Ol0 (Keep.refl h0 [a2, a1]) N1q Kc1 (allS ge_1 all0) (kaS (ow 0 rfl) all0)
  show Go _ _ _ _ _ (mkF _ _ _ [.int 97, .ref a1])
  refine G0 X1 K d52_5 rfl rfl ?_
  refine G0 X1 K d52_6 rfl rfl ?_
  refine G3 X1 K (v := 0) d52_7 (by decide) ?_
  refine G3 X1 K (v := 1) d52_8 (by decide) ?_
  have f1 := (B_2.keep Kc1 (ninS ne_1 nin0))
  refine G8 X1 K (W := 0) (w428 H) (w429 H) (nf_self K (w431 H)) (w431 H) (w430 H) (w212 H) (w432 H) (by decide) (rm57_90 H a1 a2 Ol1 f1 ge_2) rfl f1.1 rfl rfl rfl (lenOf pd_35 rfl) rfl d52_9 (by decide) ?_
  rintro T2 v2 L2 X2 ⟨bx1, bx2, kB1, rfl, N2q, Kc2, lz2_0, lz2_1, g2, g3, g4, g5, g6⟩
  have szbx1 := Nat.le_trans Kp1.1 lz2_0
  have gebx1 := Nat.le_trans Ol1.2.1 lz2_0
  have so1 := Sd.one bx1
  have szbx2 := Nat.le_trans szbx1 (Nat.le_of_lt lz2_1)
  have gebx2 := Nat.le_trans gebx1 (Nat.le_of_lt lz2_1)
  have so2 := so1.cons lz2_1
  obtain ⟨N2, Ol2, Kp2⟩ := ivK N1 Ol1 Kp1 N2q Kc2 (allS ge_2 all0) (kaS (ow 1 rfl) all0)
  show Go _ _ _ _ _ (mkF _ _ _ [.null])
  refine G13 X2 K rfl rfl rfl d52_12 (by decide) (by decide) ?_
  have f2 := (g1.keep Kc2 (ninS ne_2 nin0))
  exact ⟨bx1, bx2, kB1, rfl, N2, Kp2, szbx1, lz2_1, f2, g2, g3, g4, g5, g6⟩
theorem rm48_92 (H : Hyp Z a0) (a1 a2 : Addr) (Ol0 : Old Z (ζ Z) h0) (B_1 : Ω8 Z h0 a1 (.ref a2) (.int 3) (.int 1) (.int 0)) :
    Mt l Z M59 C40 1 (some .boolean) [] ⟨0, 0, 0, 0⟩ #[.ref a1] h0 (fun v h L => (v = some (.int 1) ∧ Fr (ζ Z) L ∧ h = h0)) := by
  refine g_be (pf pn22) (ef_0 a1) fun T0 K X0 e0 => ?_
  refine G0 X0 K d48_0 rfl rfl ?_
  refine G2 X0 K (w370 H) Via.refl e0 B_1.2.2.2.1 d48_1 ?_
  intro T1 X1 e1
  refine G0 X1 K d48_4 rfl rfl ?_
  refine G2 X1 K (tw H 368 rfl) Via.refl e1 B_1.2.2.1 d48_5 ?_
  intro T2 X2 e2
  refine G10 X2 K d48_8 (by decide) ?_
  refine G3 X2 K (v := 1) d48_11 (by decide) ?_
  refine G6 16 X2 K d48_12 (by decide) (by decide) ?_
  refine G31 X2 K (by simp) (z' := 1) (by decide) d48_16 (by decide) (by decide) ?_
  exact ⟨rfl, (Fr.nil _), e2⟩
theorem rm50_93 (H : Hyp Z a0) (a1 a2 a3 a4 a5 : Addr) (k1 : ClassId) (Ol0 : Old Z (ζ Z) h0) (B_1 : Ω3 Z h0 a1 (.ref a2) (.int 0)) (A_1 : Arv Z h0 a2 k1 (.object Q3) 3 [.ref a3, .ref a4, .ref a5] .null) :
    Mt l Z M61 C58 2 (some (.object Q3)) [] ⟨0, 0, 0, 0⟩ #[.ref a1, .int 1] h0 (fun v h L => (v = some (.ref a4) ∧ Fr (ζ Z) L ∧ h = h0)) := by
  refine g_be (pf pn23) (ef_32 a1) fun T0 K X0 e0 => ?_
  refine G0 X0 K d50_0 rfl rfl ?_
  refine G2 X0 K (tw H 185 rfl) Via.refl e0 B_1.2.1 d50_1 ?_
  intro T1 X1 e1
  refine G1 X1 K d50_4 rfl ?_
  refine G36 X1 K (v := (.ref a4)) e1 A_1 rfl (by decide) rfl d50_5 ?_
  refine G13 X1 K rfl rfl rfl d50_6 (by decide) (by decide) ?_
  exact ⟨rfl, (Fr.nil _), e1⟩
theorem rm49_94 (l : Launch) (H : Hyp Z a0) (a1 a2 a3 a4 a5 a6 : Addr) (k1 : ClassId) (h0 : Heap) (Ol0 : Old Z (ζ Z) h0) (B_1 : Ω8 Z h0 a1 (.ref a2) (.int 3) (.int 1) (.int 0)) (B_2 : Ω3 Z h0 a2 (.ref a3) (.int 0)) (A_1 : Arv Z h0 a3 k1 (.object Q3) 3 [.ref a4, .ref a5, .ref a6] .null) (ge_1 : (ζ Z) ≤ a1) :
    MtW l Z M60 C24 3 (some (.object Q3)) [((0 : Nat), (24 : Nat), (25 : Nat), (30 : Nat))] ⟨1, 0, 0, 13⟩ #[.ref a1] h0 (fun v h L => (v = some (.ref a5) ∧ Fr (ζ Z) L ∧ Keep h0 h [a1] ∧ Ω8 Z h a1 (.ref a2) (.int 3) (.int 2) (.int 0))) := by
  refine g_bodyW (pf pn22) ?_
  intro p e s m below meth c T0 K X0 e0
  refine g_entry ((ef_14 a1) m) ?_
  refine G0 X0 K d49_0 rfl rfl ?_
  refine G2 X0 K (w370 H) Via.refl e0 B_1.2.2.2.1 d49_1 ?_
  intro T1 X1 e1
  refine G24 X1 K (L' := #[vr a1, vi 1, un]) d49_4 rfl ?_
  refine G0 X1 K d49_5 rfl rfl ?_
  refine G2 X1 K (tw H 366 rfl) Via.refl e1 B_1.2.1 d49_6 ?_
  intro T2 X2 e2
  refine G1 X2 K d49_9 rfl ?_
  refine G20 X2 K (W := 0) (tw H 385 rfl) (tw H 254 rfl) (mvT K.z (tw H 255 rfl)) (tw H 386 rfl) (tw H 387 rfl) (tw H 388 rfl) (tw H 389 rfl) (w287 H) (w166 H) (tw H 390 rfl) (by decide) (rm50_93 H a2 a3 a4 a5 a6 k1 Ol0 B_2 A_1) e2 B_2.1 rfl rfl rfl (lenOf pd_21 rfl) rfl d49_10 (by decide) ?_
  rintro T3 v3 L3 X3 ⟨rfl, N3q, e3⟩
  have N3 := Fr.app (Fr.nil _) N3q
  show Go _ _ _ _ _ (mkF _ _ _ [.ref a5])
  refine G38 X3 K (L' := #[vr a1, vi 1, vr a5]) d49_15 rfl rfl ?_
  refine G0 X3 K d49_16 rfl rfl ?_
  refine G1 X3 K d49_17 rfl ?_
  refine G3 X3 K (v := 1) d49_18 (by decide) ?_
  refine G16 X3 K d49_19 (z := 2) (by decide) ?_
  refine G5 X3 K (w370 H) Via.refl e3 B_1.2.2.2.1 B_1.1 (Or.inl (w371 H)) (w355 H) (ty := .int) (by decide) rfl rfl d49_20 ?_
  intro T4 h4 X4 e4 W4 F4
  obtain ⟨N4, Ol4, Kp4⟩ := ivW N3 Ol0 (Keep.refl h0 [a1]) X4 W4 ge_1 (ow 0 rfl)
  have O4 := Ω8.s2 H B_1 W4
  refine G0 X4 K d49_23 rfl rfl ?_
  refine G13 X4 K rfl rfl rfl d49_24 (by decide) (by decide) ?_
  have Kp : Keep h0 T4.heap [a1] := by rw [e4]; exact Kp4
  exact ⟨rfl, N4, Kp, (by rw [e4]; exact O4)⟩
theorem rm51_95 (H : Hyp Z a0) (Ol0 : Old Z (ζ Z) h0) :
    Mt l Z M62 C23 1 (some (.object Q24)) [] ⟨0, 0, 0, 0⟩ #[.int 1] h0 (fun v h L => (v = some (.ref (el0 Z a0 129)) ∧ Fr (ζ Z) L ∧ h = h0)) := by
  refine g_be (pf pn5) ef_34 fun T0 K X0 e0 => ?_
  refine G1 X0 K d51_0 rfl ?_
  refine G29 X0 K (v := (-128)) d51_1 (by decide) ?_
  refine G10 X0 K d51_3 (by decide) ?_
  refine G1 X0 K d51_6 rfl ?_
  refine G33 X0 K (w395 H) e0 ((si_high H).ext Ol0.2) d51_7 ?_
  intro T1 X1 e1
  refine G10 X1 K d51_10 (by decide) ?_
  refine G33 X1 K (w397 H) e1 ((s2 H).ext Ol0.2) d51_13 ?_
  intro T2 X2 e2
  refine G1 X2 K d51_16 rfl ?_
  refine G34 X2 K (v := 128) d51_17 (by decide) ?_
  refine G16 X2 K d51_20 (z := 129) (by decide) ?_
  refine G55 X2 K e2 (let ⟨cl, q1, q2, q3⟩ := tb2 H 129 (by decide); ⟨cl, q1.ext Ol0.2, q2, q3⟩) rfl d51_21 ?_
  refine G13 X2 K rfl rfl rfl d51_22 (by decide) (by decide) ?_
  exact ⟨rfl, (Fr.nil _), e2⟩
theorem rm56_96 (H : Hyp Z a0) (a1 : Addr) (k1 : ClassId) (Ol0 : Old Z (ζ Z) h0) (A_1 : Arv Z h0 a1 k1 .byte 1 [.int 98] (.int 0)) :
    Mt l Z M69 C28 1 (some .int) [] ⟨0, 0, 0, 0⟩ #[.ref a1] h0 (fun v h L => (v = some (.int 98) ∧ Fr (ζ Z) L ∧ h = h0)) := by
  refine g_be (pf pn8) (ef_0 a1) fun T0 K X0 e0 => ?_
  refine G0 X0 K d56_0 rfl rfl ?_
  refine G21 X0 K e0 A_1 d56_1 ?_
  refine G56 32 X0 K (i := 1) (a := 1) (o := 30) d56_2 (by decide) (by decide) (by decide) (by decide) ?_
  refine G0 X0 K d56_32 rfl rfl ?_
  refine G3 X0 K (v := 0) d56_33 (by decide) ?_
  refine G42 X0 K (v := (.int 98)) e0 A_1 (by decide) rfl d56_34 ?_
  refine G34 X0 K (v := 255) d56_35 (by decide) ?_
  refine G30 X0 K d56_38 (z := 98) (by decide) ?_
  refine G6 51 X0 K d56_39 (by decide) (by decide) ?_
  refine G18 X0 K d56_51 (by decide) (by decide) ?_
  exact ⟨rfl, (Fr.nil _), e0⟩
theorem rm54_97 (H : Hyp Z a0) (a1 a2 : Addr) (k1 : ClassId) (Ol0 : Old Z (ζ Z) h0) (B_1 : Ω1 Z h0 a1 (.ref a2) (.int 0) (.int 0) (.int 0)) (A_1 : Arv Z h0 a2 k1 .byte 1 [.int 98] (.int 0)) (ge_1 : (ζ Z) ≤ a1) :
    Mt l Z M67 C8 2 (some .int) [] ⟨1, 0, 0, 12⟩ #[.ref a1] h0 (fun v h L => (v = some (.int 98) ∧ Fr (ζ Z) L ∧ Keep h0 h [a1] ∧ Ω1 Z h a1 (.ref a2) (.int 0) (.int 98) (.int 0))) := by
  refine g_be (pf pn7) (ef_15 a1) fun T0 K X0 e0 => ?_
  refine G0 X0 K d54_0 rfl rfl ?_
  refine G2 X0 K (w416 H) Via.refl e0 B_1.2.2.2.1 d54_1 ?_
  intro T1 X1 e1
  refine G24 X1 K (L' := #[vr a1, vi 0]) d54_4 rfl ?_
  refine G1 X1 K d54_5 rfl ?_
  refine G11 X1 K d54_6 (by decide) ?_
  refine G0 X1 K d54_9 rfl rfl ?_
  refine G2 X1 K (w418 H) Via.refl e1 B_1.2.2.2.2 d54_10 ?_
  intro T2 X2 e2
  refine G11 X2 K d54_13 (by decide) ?_
  refine G0 X2 K d54_16 rfl rfl ?_
  refine G8 X2 K (W := 0) (w420 H) (w421 H) (nf_self K (w423 H)) (w423 H) (w422 H) (w28 H) (w424 H) (by decide) (rm55_82 H a1 a2 Ol0 B_1) e2 B_1.1 rfl rfl rfl (lenOf pd_10 rfl) rfl d54_17 (by decide) ?_
  rintro T3 v3 L3 X3 ⟨rfl, N3q, e3⟩
  have N3 := Fr.app (Fr.nil _) N3q
  show Go _ _ _ _ _ (mkF _ _ _ [.int 1])
  refine G11 X3 K d54_20 (by decide) ?_
  refine G0 X3 K d54_23 rfl rfl ?_
  refine G2 X3 K (w56 H) Via.refl e3 B_1.2.1 d54_24 ?_
  intro T4 X4 e4
  refine G14 X4 K (W := 0) (w425 H) (w426 H) (w45 H) (w427 H) (by decide) (rm56_96 H a2 k1 Ol0 A_1) e4 rfl rfl rfl (lenOf pd_29 rfl) rfl d54_27 (by decide) ?_
  rintro T5 v5 L5 X5 ⟨rfl, N5q, e5⟩
  have N5 := Fr.app N3 N5q
  show Go _ _ _ _ _ (mkF _ _ _ [.int 98])
  refine G6 40 X5 K d54_30 (by decide) (by decide) ?_
  refine G24 X5 K (L' := #[vr a1, vi 98]) d54_40 rfl ?_
  refine G1 X5 K d54_41 rfl ?_
  refine G15 53 X5 K d54_42 (by decide) (by decide) (by decide) ?_
  refine G0 X5 K d54_53 rfl rfl ?_
  refine G1 X5 K d54_54 rfl ?_
  refine G5 X5 K (w416 H) Via.refl e5 B_1.2.2.2.1 B_1.1 (Or.inl (w417 H)) (w29 H) (ty := .int) (by decide) rfl rfl d54_55 ?_
  intro T6 h6 X6 e6 W6 F6
  obtain ⟨N6, Ol6, Kp6⟩ := ivW N5 Ol0 (Keep.refl h0 [a1]) X6 W6 ge_1 (ow 0 rfl)
  have O6 := Ω1.s2 H B_1 W6
  refine G1 X6 K d54_58 rfl ?_
  refine G18 X6 K d54_59 (by decide) (by decide) ?_
  have Kp : Keep h0 T6.heap [a1] := by rw [e6]; exact Kp6
  exact ⟨rfl, N6, Kp, (by rw [e6]; exact O6)⟩
theorem rm53_98 (H : Hyp Z a0) (a1 a2 : Addr) (k1 : ClassId) (Ol0 : Old Z (ζ Z) h0) (B_1 : Ω1 Z h0 a1 (.ref a2) (.int 0) (.int 0) (.int 0)) (A_1 : Arv Z h0 a2 k1 .byte 1 [.int 98] (.int 0)) (ge_1 : (ζ Z) ≤ a1) :
    Mt l Z M65 C27 2 (some .int) [] ⟨2, 0, 0, 25⟩ #[.ref a1] h0 (fun v h L => (v = some (.int 98) ∧ Fr (ζ Z) L ∧ Keep h0 h [a1] ∧ Ω1 Z h a1 (.ref a2) (.int 0) (.int 98) (.int 0))) := by
  refine g_be (pf pn16) (ef_15 a1) fun T0 K X0 e0 => ?_
  refine G0 X0 K d53_0 rfl rfl ?_
  refine G51 8 X0 K d53_1 (by decide) (by decide) ?_
  refine G0 X0 K d53_8 rfl rfl ?_
  refine G8 X0 K (W := 0) (w410 H) (w411 H) (nf_top (args := #[]) (mvT K.z (w113 H))) (w413 H) (w414 H) (w28 H) (w415 H) (by decide) (rm54_97 H a1 a2 k1 Ol0 B_1 A_1 ge_1) e0 B_1.1 rfl rfl rfl (lenOf pd_23 rfl) rfl d53_9 (by decide) ?_
  rintro T1 v1 L1 X1 ⟨rfl, N1q, Kc1, g1⟩
  obtain ⟨N1, Ol1, Kp1⟩ := ivK (Fr.nil _) Ol0 (Keep.refl h0 [a1]) N1q Kc1 (allS ge_1 all0) (kaS (ow 0 rfl) all0)
  show Go _ _ _ _ _ (mkF _ _ _ [.int 98])
  refine G9 X1 K d53_12 rfl ?_
  refine G24 X1 K (L' := #[vr a1, vi 98]) d53_13 rfl ?_
  refine G1 X1 K d53_14 rfl ?_
  refine G29 X1 K (v := 16) d53_15 (by decide) ?_
  refine G57 X1 K d53_17 (z := 0) (by decide) ?_
  refine G58 X1 K d53_18 (z := 98) (by decide) ?_
  refine G18 X1 K d53_19 (by decide) (by decide) ?_
  exact ⟨rfl, N1, Kp1, g1⟩
theorem rm60_99 (H : Hyp Z a0) (a1 a2 : Addr) (Ol0 : Old Z (ζ Z) h0) (B_1 : Ω9 Z h0 a1 (.int 0) .null .null .null) (ge_1 : (ζ Z) ≤ a1) :
    Mt l Z M73 C18 5 none [] ⟨1, 0, 0, 12⟩ #[.ref a1, .int 98, .ref a2, (.ref (el0 Z a0 129)), .null] h0 (fun v h L => (v = none ∧ Fr (ζ Z) L ∧ Keep h0 h [a1] ∧ Ω9 Z h a1 (.int 98) (.ref a2) (.ref (el0 Z a0 129)) .null)) := by
  refine g_be (pf pn17) (ef_35 a1 a2 (el0 Z a0 129)) fun T0 K X0 e0 => ?_
  refine G0 X0 K d60_0 rfl rfl ?_
  refine G40 X0 K (W := 0) (w455 H) (w20 H) (w21 H) e0 rfl d60_1 (by decide) (Nat.le_of_eq rfl) (by decide) ?_
  intro T1 X1 e1
  refine G0 X1 K d60_4 rfl rfl ?_
  refine G1 X1 K d60_5 rfl ?_
  refine G5 X1 K (w456 H) Via.refl e1 B_1.2.1 B_1.1 (Or.inr ⟨(w457 H), rfl, rfl⟩) (w449 H) (ty := .int) (by decide) rfl rfl d60_6 ?_
  intro T2 h2 X2 e2 W2 F2
  obtain ⟨N2, Ol2, Kp2⟩ := ivW (Fr.nil _) Ol0 (Keep.refl h0 [a1]) X2 W2 ge_1 (ow 0 rfl)
  have O2 := Ω9.s0 H B_1 W2
  refine G0 X2 K d60_9 rfl rfl ?_
  refine G0 X2 K d60_10 rfl rfl ?_
  refine G5 X2 K (w458 H) Via.refl e2 O2.2.2.1 O2.1 (Or.inr ⟨(w459 H), rfl, rfl⟩) (w449 H) (ty := (.object Q3)) (by decide) rfl rfl d60_11 ?_
  intro T3 h3 X3 e3 W3 F3
  obtain ⟨N3, Ol3, Kp3⟩ := ivW N2 Ol2 Kp2 X3 W3 ge_1 (ow 0 rfl)
  have O3 := Ω9.s1 H O2 W3
  refine G0 X3 K d60_14 rfl rfl ?_
  refine G0 X3 K d60_15 rfl rfl ?_
  refine G5 X3 K (w460 H) Via.refl e3 O3.2.2.2.1 O3.1 (Or.inl (w461 H)) (w449 H) (ty := (.object Q3)) (by decide) rfl rfl d60_16 ?_
  intro T4 h4 X4 e4 W4 F4
  obtain ⟨N4, Ol4, Kp4⟩ := ivW N3 Ol3 Kp3 X4 W4 ge_1 (ow 0 rfl)
  have O4 := Ω9.s2 H O3 W4
  refine G0 X4 K d60_19 rfl rfl ?_
  refine G7 X4 K d60_20 rfl rfl ?_
  refine G5 X4 K (w462 H) Via.refl e4 O4.2.2.2.2 O4.1 (Or.inl (w463 H)) (w449 H) (ty := (.object Q6)) (by decide) rfl rfl d60_22 ?_
  intro T5 h5 X5 e5 W5 F5
  obtain ⟨N5, Ol5, Kp5⟩ := ivW N4 Ol4 Kp4 X5 W5 ge_1 (ow 0 rfl)
  have O5 := Ω9.s3 H O4 W5
  refine G17 X5 K d60_25 (by decide) (by decide) ?_
  have Kp : Keep h0 T5.heap [a1] := by rw [e5]; exact Kp5
  exact ⟨rfl, N5, Kp, (by rw [e5]; exact O5)⟩
theorem rm59_100 (H : Hyp Z a0) (a1 a2 : Addr) (Ol0 : Old Z (ζ Z) h0) :
    Mt l Z M72 C36 5 (some (.object Q6)) [] ⟨2, 1, 4, 29⟩ #[.ref a1, .int 98, .ref a2, (.ref (el0 Z a0 129)), .null] h0 (fun v h L => (∃ (b1 : Addr), v = some (.ref b1) ∧ Fr (ζ Z) L ∧ Keep h0 h [] ∧ h0.size ≤ b1 ∧ Ω9 Z h b1 (.int 98) (.ref a2) (.ref (el0 Z a0 129)) .null)) := by
  refine g_be (pf pn16) (ef_35 a1 a2 (el0 Z a0 129)) fun T0 K X0 e0 => ?_
  refine G27 X0 K (w442 H) (w449 H) (w450 H) e0 d59_0 (by decide) (by decide) ?_
  intro T1 h1 b1 X1 e1 E1 z1 A1 D1
  obtain ⟨sz1, ge1, Ol1, Kp1⟩ := ivE Ol0 (Keep.refl h0 []) E1 z1
  have so1 := Sd.one b1
  have O1 := Ω9.new H A1 D1
  refine G9 X1 K d59_3 rfl ?_
  refine G1 X1 K d59_4 rfl ?_
  refine G0 X1 K d59_5 rfl rfl ?_
  refine G0 X1 K d59_6 rfl rfl ?_
  refine G7 X1 K d59_7 rfl rfl ?_
  refine G23 X1 K (W := 1) rfl (w451 H) (w452 H) (w450 H) (w454 H) (by decide) (rm60_99 H b1 a2 Ol1 O1 ge1) e1 rfl rfl rfl (lenOf pd_32 rfl) rfl d59_9 (by decide) ?_
  rintro T2 v2 L2 X2 ⟨rfl, N2q, Kc2, g1⟩
  obtain ⟨N2, Ol2, Kp2⟩ := ivK (Fr.nil _) Ol1 Kp1 N2q Kc2 (allS ge1 all0) (kaS (Or.inr sz1) all0)
  show Go _ _ _ _ _ (mkF _ _ _ [.ref b1])
  refine G13 X2 K rfl rfl rfl d59_12 (by decide) (by decide) ?_
  exact ⟨b1, rfl, N2, Kp2, sz1, g1⟩
theorem rm57_101 (H : Hyp Z a0) (a1 a2 a3 a4 : Addr) (k1 : ClassId) (Ol0 : Old Z (ζ Z) h0) (B_1 : Ω5 Z h0 a1 (.float 1061158912) (.ref a3) (.int 12) (.int 1) (.int 1)) (A_1 : Arv Z h0 a3 k1 (.object Q6) 16 [.null, .ref a4, .null, .null, .null, .null, .null, .null, .null, .null, .null, .null, .null, .null, .null, .null] .null) (O_1 : Ovr Z k1 Q6) (ge_1 : (ζ Z) ≤ a3) (ne_1 : a1 ≠ a3) (ge_2 : (ζ Z) ≤ a1) (ne_2 : a3 ≠ a1) :
    Mt l Z M70 C3 13 (some (.object Q3)) [] ⟨3, 1, 4, 47⟩ #[.ref a1, .int 98, .ref a2, (.ref (el0 Z a0 129)), .int 0, .int 1] h0 (fun v h L => (∃ (bx1 : Addr), v = some .null ∧ Fr (ζ Z) L ∧ Keep h0 h [a3, a1] ∧ h0.size ≤ bx1 ∧ Arv Z h a3 k1 (.object Q6) 16 [.null, .ref a4, .ref bx1, .null, .null, .null, .null, .null, .null, .null, .null, .null, .null, .null, .null, .null] .null ∧ Ω5 Z h a1 (.float 1061158912) (.ref a3) (.int 12) (.int 2) (.int 2) ∧ Ω9 Z h bx1 (.int 98) (.ref a2) (.ref (el0 Z a0 129)) .null)) := by
  refine g_be (pf pn16) (ef_36 a1 a2 (el0 Z a0 129)) fun T0 K X0 e0 => ?_
  refine G0 X0 K d57_0 rfl rfl ?_
  refine G2 X0 K (w433 H) Via.refl e0 B_1.2.2.1 d57_1 ?_
  intro T1 X1 e1
  refine G9 X1 K d57_4 rfl ?_
  refine G26 X1 K (L' := #[vr a1, vi 98, vr a2, vr (el0 Z a0 129), vi 0, vi 1, vr a3, un, un, un, un, un, un]) d57_5 rfl rfl ?_
  refine G62 X1 K d57_7 ?_
  refine G7 X1 K d57_10 rfl rfl ?_
  refine G21 X1 K e1 A_1 d57_12 ?_
  refine G9 X1 K d57_13 rfl ?_
  refine G12 X1 K (L' := #[vr a1, vi 98, vr a2, vr (el0 Z a0 129), vi 0, vi 1, vr a3, un, vi 16, un, un, un, un]) d57_14 rfl ?_
  refine G15 29 X1 K d57_16 (by decide) (by decide) (by decide) ?_
  refine G7 X1 K d57_29 rfl rfl ?_
  refine G4 X1 K d57_31 rfl ?_
  refine G3 X1 K (v := 1) d57_33 (by decide) ?_
  refine G45 X1 K d57_34 (z := 15) (by decide) ?_
  refine G1 X1 K d57_35 rfl ?_
  refine G30 X1 K d57_36 (z := 2) (by decide) ?_
  refine G9 X1 K d57_37 rfl ?_
  refine G12 X1 K (L' := #[vr a1, vi 98, vr a2, vr (el0 Z a0 129), vi 0, vi 1, vr a3, un, vi 16, vi 2, un, un, un]) d57_38 rfl ?_
  refine G36 X1 K (v := .null) e1 A_1 rfl (by decide) rfl d57_40 ?_
  refine G9 X1 K d57_41 rfl ?_
  refine G26 X1 K (L' := #[vr a1, vi 98, vr a2, vr (el0 Z a0 129), vi 0, vi 1, vr a3, vn, vi 16, vi 2, un, un, un]) d57_42 rfl rfl ?_
  refine G52 X1 K d57_44 ?_
  refine G7 X1 K d57_47 rfl rfl ?_
  refine G4 X1 K d57_49 rfl ?_
  refine G0 X1 K d57_51 rfl rfl ?_
  refine G1 X1 K d57_52 rfl ?_
  refine G0 X1 K d57_53 rfl rfl ?_
  refine G0 X1 K d57_54 rfl rfl ?_
  refine G28 X1 K d57_55 ?_
  refine G8 X1 K (W := 2) (w444 H) (w445 H) (nf_self K (w447 H)) (w447 H) (w446 H) (w212 H) (w448 H) (by decide) (rm59_100 H a1 a2 Ol0) e1 B_1.1 rfl rfl rfl (lenOf pd_33 rfl) rfl d57_56 (by decide) ?_
  rintro T2 v2 L2 X2 ⟨bx1, rfl, N2q, Kc2, lz2_0, g1⟩
  have szbx1 := Nat.le_trans (Keep.refl h0 [a3, a1]).1 lz2_0
  have gebx1 := Nat.le_trans Ol0.2.1 lz2_0
  have so1 := Sd.one bx1
  obtain ⟨N2, Ol2, Kp2⟩ := ivK (Fr.nil _) Ol0 (Keep.refl h0 [a3, a1]) N2q Kc2 all0 all0
  show Go _ _ _ _ _ (mkF _ _ _ [.ref bx1, .int 2, .ref a3])
  have f1 := (A_1.keep Kc2 nin0)
  refine G32 X2 K (vs' := [.null, .ref a4, .ref bx1, .null, .null, .null, .null, .null, .null, .null, .null, .null, .null, .null, .null, .null]) rfl f1 (Or.inr ⟨_, rfl, O_1, (Ins.self g1.1)⟩) (by decide) (Nat.le_of_ble_eq_true rfl) rfl d57_59 ?_
  intro T3 h3 X3 e3 W3 F3
  obtain ⟨N3, Ol3, Kp3⟩ := ivW N2 Ol2 Kp2 X3 W3 ge_1 (ow 0 rfl)
  refine G6 259 X3 K d57_60 (by decide) (by decide) ?_
  refine G0 X3 K d57_259 rfl rfl ?_
  refine G9 X3 K d57_260 rfl ?_
  have f2 := ((B_1.keep Kc2 nin0).other W3 ne_1)
  refine G2 X3 K (w464 H) Via.refl e3 f2.2.2.2.2.1 d57_261 ?_
  intro T4 X4 e4
  refine G3 X4 K (v := 1) d57_264 (by decide) ?_
  refine G16 X4 K d57_265 (z := 2) (by decide) ?_
  refine G5 X4 K (w464 H) Via.refl e4 f2.2.2.2.2.1 f2.1 (Or.inl (w465 H)) (w211 H) (ty := .int) (by decide) rfl rfl d57_266 ?_
  intro T5 h5 X5 e5 W5 F5
  obtain ⟨N5, Ol5, Kp5⟩ := ivW N3 Ol3 Kp3 X5 W5 ge_2 (ow 1 rfl)
  have O5 := Ω5.s3 H f2 W5
  refine G0 X5 K d57_269 rfl rfl ?_
  refine G9 X5 K d57_270 rfl ?_
  refine G2 X5 K (w466 H) Via.refl e5 O5.2.2.2.2.2 d57_271 ?_
  intro T6 X6 e6
  refine G3 X6 K (v := 1) d57_274 (by decide) ?_
  refine G16 X6 K d57_275 (z := 2) (by decide) ?_
  refine G46 X6 K d57_276 rfl rfl ?_
  refine G5 X6 K (w466 H) Via.refl e6 O5.2.2.2.2.2 O5.1 (Or.inl (w467 H)) (w211 H) (ty := .int) (by decide) rfl rfl d57_277 ?_
  intro T7 h7 X7 e7 W7 F7
  obtain ⟨N7, Ol7, Kp7⟩ := ivW N5 Ol5 Kp5 X7 W7 ge_2 (ow 1 rfl)
  have O7 := Ω5.s4 H O5 W7
  refine G0 X7 K d57_280 rfl rfl ?_
  refine G2 X7 K (w440 H) Via.refl e7 O7.2.2.2.1 d57_281 ?_
  intro T8 X8 e8
  refine G19 292 X8 K d57_284 (by decide) (by decide) (by decide) ?_
  refine G0 X8 K d57_292 rfl rfl ?_
  refine G4 X8 K d57_293 rfl ?_
  refine G8 X8 K (W := 0) (w468 H) (w469 H) (nf_self K (w471 H)) (w471 H) (w470 H) (w212 H) (w472 H) (by decide) (rm61_89 H a1 Ol7) e8 O7.1 rfl rfl rfl (lenOf pd_34 rfl) rfl d57_295 (by decide) ?_
  rintro T9 v9 L9 X9 ⟨rfl, N9q, e9⟩
  have N9 := Fr.app N7 N9q
  show Go _ _ _ _ _ (mkF _ _ _ [])
  refine G28 X9 K d57_298 ?_
  refine G13 X9 K rfl rfl rfl d57_299 (by decide) (by decide) ?_
  have Kp : Keep h0 T9.heap [a3, a1] := by rw [e9]; exact Kp7
  have f3 := ((F3.other W5 ne_2).other W7 ne_2)
  have ne1 : a3 ≠ bx1 := (Nat.ne_of_lt (Nat.lt_of_lt_of_le A_1.lt szbx1))
  have ne2 : a1 ≠ bx1 := (Nat.ne_of_lt (Nat.lt_of_lt_of_le B_1.lt szbx1))
  have f4 := (((g1.other W3 (Ne.symm ne1)).other W5 (Ne.symm ne2)).other W7 (Ne.symm ne2))
  exact ⟨bx1, rfl, N9, Kp, szbx1, (by rw [e9]; exact f3), (by rw [e9]; exact O7), (by rw [e9]; exact f4)⟩
theorem rm52_102 (H : Hyp Z a0) (a1 a2 a3 : Addr) (k1 : ClassId) (a4 a5 : Addr) (k2 : ClassId) (Ol0 : Old Z (ζ Z) h0) (B_1 : Ω1 Z h0 a2 (.ref a3) (.int 0) (.int 0) (.int 0)) (A_1 : Arv Z h0 a3 k1 .byte 1 [.int 98] (.int 0)) (ge_1 : (ζ Z) ≤ a2) (B_2 : Ω5 Z h0 a1 (.float 1061158912) (.ref a4) (.int 12) (.int 1) (.int 1)) (A_2 : Arv Z h0 a4 k2 (.object Q6) 16 [.null, .ref a5, .null, .null, .null, .null, .null, .null, .null, .null, .null, .null, .null, .null, .null, .null] .null) (ne_1 : a1 ≠ a2) (ne_2 : a4 ≠ a2) (O_1 : Ovr Z k2 Q6) (ge_2 : (ζ Z) ≤ a4) (ne_3 : a1 ≠ a4) (ge_3 : (ζ Z) ≤ a1) (ne_4 : a4 ≠ a1) (ne_5 : a2 ≠ a1) (ne_6 : a2 ≠ a4) :
    Mt l Z M64 C32 3 (some (.object Q3)) [] ⟨4, 1, 4, 71⟩ #[.ref a1, .ref a2, (.ref (el0 Z a0 129))] h0 (fun v h L => (∃ (bx1 : Addr), v = some .null ∧ Fr (ζ Z) L ∧ Keep h0 h [a2, a4, a1] ∧ h0.size ≤ bx1 ∧ Ω1 Z h a2 (.ref a3) (.int 0) (.int 98) (.int 0) ∧ Arv Z h a4 k2 (.object Q6) 16 [.null, .ref a5, .ref bx1, .null, .null, .null, .null, .null, .null, .null, .null, .null, .null, .null, .null, .null] .null ∧ Ω5 Z h a1 (.float 1061158912) (.ref a4) (.int 12) (.int 2) (.int 2) ∧ Ω9 Z h bx1 (.int 98) (.ref a2) (.ref (el0 Z a0 129)) .null)) := by
  refine g_be (pf pn16) (ef_16 a1 a2 (el0 Z a0 129)) fun T0 K X0 e0 => ?_
  refine G0 X0 K d52_0 rfl rfl ?_
  refine G0 X0 K d52_1 rfl rfl ?_
  refine G14 X0 K (W := 1) (w407 H) (w408 H) (w212 H) (w409 H) (by decide) (rm53_98 H a2 a3 k1 Ol0 B_1 A_1 ge_1) e0 rfl rfl rfl (lenOf pd_30 rfl) rfl d52_2 (by decide) ?_
  rintro T1 v1 L1 X1 ⟨rfl, N1q, Kc1, g1⟩
  obtain ⟨N1, Ol1, Kp1⟩ := ivK (Fr.nil _) Ol0 (Keep.refl h0 [a2, a4, a1]) N1q Kc1 (allS ge_1 all0) (kaS (ow 0 rfl) all0)
  show Go _ _ _ _ _ (mkF _ _ _ [.int 98, .ref a1])
  refine G0 X1 K d52_5 rfl rfl ?_
  refine G0 X1 K d52_6 rfl rfl ?_
  refine G3 X1 K (v := 0) d52_7 (by decide) ?_
  refine G3 X1 K (v := 1) d52_8 (by decide) ?_
  have f1 := (B_2.keep Kc1 (ninS ne_1 nin0))
  have f2 := (A_2.keep Kc1 (ninS ne_2 nin0))
  refine G8 X1 K (W := 0) (w428 H) (w429 H) (nf_self K (w431 H)) (w431 H) (w430 H) (w212 H) (w432 H) (by decide) (rm57_101 H a1 a2 a4 a5 k2 Ol1 f1 f2 O_1 ge_2 ne_3 ge_3 ne_4) rfl f1.1 rfl rfl rfl (lenOf pd_35 rfl) rfl d52_9 (by decide) ?_
  rintro T2 v2 L2 X2 ⟨bx1, rfl, N2q, Kc2, lz2_0, g2, g3, g4⟩
  have szbx1 := Nat.le_trans Kp1.1 lz2_0
  have gebx1 := Nat.le_trans Ol1.2.1 lz2_0
  have so1 := Sd.one bx1
  obtain ⟨N2, Ol2, Kp2⟩ := ivK N1 Ol1 Kp1 N2q Kc2 (allS ge_2 (allS ge_3 all0)) (kaS (ow 1 rfl) (kaS (ow 2 rfl) all0))
  show Go _ _ _ _ _ (mkF _ _ _ [.null])
  refine G13 X2 K rfl rfl rfl d52_12 (by decide) (by decide) ?_
  have f3 := (g1.keep Kc2 (ninS ne_6 (ninS ne_5 nin0)))
  exact ⟨bx1, rfl, N2, Kp2, szbx1, f3, g2, g3, g4⟩
theorem rm48_103 (H : Hyp Z a0) (a1 a2 : Addr) (Ol0 : Old Z (ζ Z) h0) (B_1 : Ω8 Z h0 a1 (.ref a2) (.int 3) (.int 2) (.int 0)) :
    Mt l Z M59 C40 1 (some .boolean) [] ⟨0, 0, 0, 0⟩ #[.ref a1] h0 (fun v h L => (v = some (.int 1) ∧ Fr (ζ Z) L ∧ h = h0)) := by
  refine g_be (pf pn22) (ef_0 a1) fun T0 K X0 e0 => ?_
  refine G0 X0 K d48_0 rfl rfl ?_
  refine G2 X0 K (w370 H) Via.refl e0 B_1.2.2.2.1 d48_1 ?_
  intro T1 X1 e1
  refine G0 X1 K d48_4 rfl rfl ?_
  refine G2 X1 K (tw H 368 rfl) Via.refl e1 B_1.2.2.1 d48_5 ?_
  intro T2 X2 e2
  refine G10 X2 K d48_8 (by decide) ?_
  refine G3 X2 K (v := 1) d48_11 (by decide) ?_
  refine G6 16 X2 K d48_12 (by decide) (by decide) ?_
  refine G31 X2 K (by simp) (z' := 1) (by decide) d48_16 (by decide) (by decide) ?_
  exact ⟨rfl, (Fr.nil _), e2⟩
theorem rm50_104 (H : Hyp Z a0) (a1 a2 a3 a4 a5 : Addr) (k1 : ClassId) (Ol0 : Old Z (ζ Z) h0) (B_1 : Ω3 Z h0 a1 (.ref a2) (.int 0)) (A_1 : Arv Z h0 a2 k1 (.object Q3) 3 [.ref a3, .ref a4, .ref a5] .null) :
    Mt l Z M61 C58 2 (some (.object Q3)) [] ⟨0, 0, 0, 0⟩ #[.ref a1, .int 2] h0 (fun v h L => (v = some (.ref a5) ∧ Fr (ζ Z) L ∧ h = h0)) := by
  refine g_be (pf pn23) (ef_24 a1) fun T0 K X0 e0 => ?_
  refine G0 X0 K d50_0 rfl rfl ?_
  refine G2 X0 K (tw H 185 rfl) Via.refl e0 B_1.2.1 d50_1 ?_
  intro T1 X1 e1
  refine G1 X1 K d50_4 rfl ?_
  refine G36 X1 K (v := (.ref a5)) e1 A_1 rfl (by decide) rfl d50_5 ?_
  refine G13 X1 K rfl rfl rfl d50_6 (by decide) (by decide) ?_
  exact ⟨rfl, (Fr.nil _), e1⟩
theorem rm49_105 (l : Launch) (H : Hyp Z a0) (a1 a2 a3 a4 a5 a6 : Addr) (k1 : ClassId) (h0 : Heap) (Ol0 : Old Z (ζ Z) h0) (B_1 : Ω8 Z h0 a1 (.ref a2) (.int 3) (.int 2) (.int 0)) (B_2 : Ω3 Z h0 a2 (.ref a3) (.int 0)) (A_1 : Arv Z h0 a3 k1 (.object Q3) 3 [.ref a4, .ref a5, .ref a6] .null) (ge_1 : (ζ Z) ≤ a1) :
    MtW l Z M60 C24 3 (some (.object Q3)) [((0 : Nat), (24 : Nat), (25 : Nat), (30 : Nat))] ⟨1, 0, 0, 13⟩ #[.ref a1] h0 (fun v h L => (v = some (.ref a6) ∧ Fr (ζ Z) L ∧ Keep h0 h [a1] ∧ Ω8 Z h a1 (.ref a2) (.int 3) (.int 3) (.int 0))) := by
  refine g_bodyW (pf pn22) ?_
  intro p e s m below meth c T0 K X0 e0
  refine g_entry ((ef_14 a1) m) ?_
  refine G0 X0 K d49_0 rfl rfl ?_
  refine G2 X0 K (w370 H) Via.refl e0 B_1.2.2.2.1 d49_1 ?_
  intro T1 X1 e1
  refine G24 X1 K (L' := #[vr a1, vi 2, un]) d49_4 rfl ?_
  refine G0 X1 K d49_5 rfl rfl ?_
  refine G2 X1 K (tw H 366 rfl) Via.refl e1 B_1.2.1 d49_6 ?_
  intro T2 X2 e2
  refine G1 X2 K d49_9 rfl ?_
  refine G20 X2 K (W := 0) (tw H 385 rfl) (tw H 254 rfl) (mvT K.z (tw H 255 rfl)) (tw H 386 rfl) (tw H 387 rfl) (tw H 388 rfl) (tw H 389 rfl) (w287 H) (w166 H) (tw H 390 rfl) (by decide) (rm50_104 H a2 a3 a4 a5 a6 k1 Ol0 B_2 A_1) e2 B_2.1 rfl rfl rfl (lenOf pd_21 rfl) rfl d49_10 (by decide) ?_
  rintro T3 v3 L3 X3 ⟨rfl, N3q, e3⟩
  have N3 := Fr.app (Fr.nil _) N3q
  show Go _ _ _ _ _ (mkF _ _ _ [.ref a6])
  refine G38 X3 K (L' := #[vr a1, vi 2, vr a6]) d49_15 rfl rfl ?_
  refine G0 X3 K d49_16 rfl rfl ?_
  refine G1 X3 K d49_17 rfl ?_
  refine G3 X3 K (v := 1) d49_18 (by decide) ?_
  refine G16 X3 K d49_19 (z := 3) (by decide) ?_
  refine G5 X3 K (w370 H) Via.refl e3 B_1.2.2.2.1 B_1.1 (Or.inl (w371 H)) (w355 H) (ty := .int) (by decide) rfl rfl d49_20 ?_
  intro T4 h4 X4 e4 W4 F4
  obtain ⟨N4, Ol4, Kp4⟩ := ivW N3 Ol0 (Keep.refl h0 [a1]) X4 W4 ge_1 (ow 0 rfl)
  have O4 := Ω8.s2 H B_1 W4
  refine G0 X4 K d49_23 rfl rfl ?_
  refine G13 X4 K rfl rfl rfl d49_24 (by decide) (by decide) ?_
  have Kp : Keep h0 T4.heap [a1] := by rw [e4]; exact Kp4
  exact ⟨rfl, N4, Kp, (by rw [e4]; exact O4)⟩
theorem rm51_106 (H : Hyp Z a0) (Ol0 : Old Z (ζ Z) h0) :
    Mt l Z M62 C23 1 (some (.object Q24)) [] ⟨0, 0, 0, 0⟩ #[.int 2] h0 (fun v h L => (v = some (.ref (el0 Z a0 130)) ∧ Fr (ζ Z) L ∧ h = h0)) := by
  refine g_be (pf pn5) ef_37 fun T0 K X0 e0 => ?_
  refine G1 X0 K d51_0 rfl ?_
  refine G29 X0 K (v := (-128)) d51_1 (by decide) ?_
  refine G10 X0 K d51_3 (by decide) ?_
  refine G1 X0 K d51_6 rfl ?_
  refine G33 X0 K (w395 H) e0 ((si_high H).ext Ol0.2) d51_7 ?_
  intro T1 X1 e1
  refine G10 X1 K d51_10 (by decide) ?_
  refine G33 X1 K (w397 H) e1 ((s2 H).ext Ol0.2) d51_13 ?_
  intro T2 X2 e2
  refine G1 X2 K d51_16 rfl ?_
  refine G34 X2 K (v := 128) d51_17 (by decide) ?_
  refine G16 X2 K d51_20 (z := 130) (by decide) ?_
  refine G55 X2 K e2 (let ⟨cl, q1, q2, q3⟩ := tb2 H 130 (by decide); ⟨cl, q1.ext Ol0.2, q2, q3⟩) rfl d51_21 ?_
  refine G13 X2 K rfl rfl rfl d51_22 (by decide) (by decide) ?_
  exact ⟨rfl, (Fr.nil _), e2⟩
theorem rm56_107 (H : Hyp Z a0) (a1 : Addr) (k1 : ClassId) (Ol0 : Old Z (ζ Z) h0) (A_1 : Arv Z h0 a1 k1 .byte 1 [.int 99] (.int 0)) :
    Mt l Z M69 C28 1 (some .int) [] ⟨0, 0, 0, 0⟩ #[.ref a1] h0 (fun v h L => (v = some (.int 99) ∧ Fr (ζ Z) L ∧ h = h0)) := by
  refine g_be (pf pn8) (ef_0 a1) fun T0 K X0 e0 => ?_
  refine G0 X0 K d56_0 rfl rfl ?_
  refine G21 X0 K e0 A_1 d56_1 ?_
  refine G56 32 X0 K (i := 1) (a := 1) (o := 30) d56_2 (by decide) (by decide) (by decide) (by decide) ?_
  refine G0 X0 K d56_32 rfl rfl ?_
  refine G3 X0 K (v := 0) d56_33 (by decide) ?_
  refine G42 X0 K (v := (.int 99)) e0 A_1 (by decide) rfl d56_34 ?_
  refine G34 X0 K (v := 255) d56_35 (by decide) ?_
  refine G30 X0 K d56_38 (z := 99) (by decide) ?_
  refine G6 51 X0 K d56_39 (by decide) (by decide) ?_
  refine G18 X0 K d56_51 (by decide) (by decide) ?_
  exact ⟨rfl, (Fr.nil _), e0⟩
theorem rm54_108 (H : Hyp Z a0) (a1 a2 : Addr) (k1 : ClassId) (Ol0 : Old Z (ζ Z) h0) (B_1 : Ω1 Z h0 a1 (.ref a2) (.int 0) (.int 0) (.int 0)) (A_1 : Arv Z h0 a2 k1 .byte 1 [.int 99] (.int 0)) (ge_1 : (ζ Z) ≤ a1) :
    Mt l Z M67 C8 2 (some .int) [] ⟨1, 0, 0, 12⟩ #[.ref a1] h0 (fun v h L => (v = some (.int 99) ∧ Fr (ζ Z) L ∧ Keep h0 h [a1] ∧ Ω1 Z h a1 (.ref a2) (.int 0) (.int 99) (.int 0))) := by
  refine g_be (pf pn7) (ef_15 a1) fun T0 K X0 e0 => ?_
  refine G0 X0 K d54_0 rfl rfl ?_
  refine G2 X0 K (w416 H) Via.refl e0 B_1.2.2.2.1 d54_1 ?_
  intro T1 X1 e1
  refine G24 X1 K (L' := #[vr a1, vi 0]) d54_4 rfl ?_
  refine G1 X1 K d54_5 rfl ?_
  refine G11 X1 K d54_6 (by decide) ?_
  refine G0 X1 K d54_9 rfl rfl ?_
  refine G2 X1 K (w418 H) Via.refl e1 B_1.2.2.2.2 d54_10 ?_
  intro T2 X2 e2
  refine G11 X2 K d54_13 (by decide) ?_
  refine G0 X2 K d54_16 rfl rfl ?_
  refine G8 X2 K (W := 0) (w420 H) (w421 H) (nf_self K (w423 H)) (w423 H) (w422 H) (w28 H) (w424 H) (by decide) (rm55_82 H a1 a2 Ol0 B_1) e2 B_1.1 rfl rfl rfl (lenOf pd_10 rfl) rfl d54_17 (by decide) ?_
  rintro T3 v3 L3 X3 ⟨rfl, N3q, e3⟩
  have N3 := Fr.app (Fr.nil _) N3q
  show Go _ _ _ _ _ (mkF _ _ _ [.int 1])
  refine G11 X3 K d54_20 (by decide) ?_
  refine G0 X3 K d54_23 rfl rfl ?_
  refine G2 X3 K (w56 H) Via.refl e3 B_1.2.1 d54_24 ?_
  intro T4 X4 e4
  refine G14 X4 K (W := 0) (w425 H) (w426 H) (w45 H) (w427 H) (by decide) (rm56_107 H a2 k1 Ol0 A_1) e4 rfl rfl rfl (lenOf pd_29 rfl) rfl d54_27 (by decide) ?_
  rintro T5 v5 L5 X5 ⟨rfl, N5q, e5⟩
  have N5 := Fr.app N3 N5q
  show Go _ _ _ _ _ (mkF _ _ _ [.int 99])
  refine G6 40 X5 K d54_30 (by decide) (by decide) ?_
  refine G24 X5 K (L' := #[vr a1, vi 99]) d54_40 rfl ?_
  refine G1 X5 K d54_41 rfl ?_
  refine G15 53 X5 K d54_42 (by decide) (by decide) (by decide) ?_
  refine G0 X5 K d54_53 rfl rfl ?_
  refine G1 X5 K d54_54 rfl ?_
  refine G5 X5 K (w416 H) Via.refl e5 B_1.2.2.2.1 B_1.1 (Or.inl (w417 H)) (w29 H) (ty := .int) (by decide) rfl rfl d54_55 ?_
  intro T6 h6 X6 e6 W6 F6
  obtain ⟨N6, Ol6, Kp6⟩ := ivW N5 Ol0 (Keep.refl h0 [a1]) X6 W6 ge_1 (ow 0 rfl)
  have O6 := Ω1.s2 H B_1 W6
  refine G1 X6 K d54_58 rfl ?_
  refine G18 X6 K d54_59 (by decide) (by decide) ?_
  have Kp : Keep h0 T6.heap [a1] := by rw [e6]; exact Kp6
  exact ⟨rfl, N6, Kp, (by rw [e6]; exact O6)⟩
theorem rm53_109 (H : Hyp Z a0) (a1 a2 : Addr) (k1 : ClassId) (Ol0 : Old Z (ζ Z) h0) (B_1 : Ω1 Z h0 a1 (.ref a2) (.int 0) (.int 0) (.int 0)) (A_1 : Arv Z h0 a2 k1 .byte 1 [.int 99] (.int 0)) (ge_1 : (ζ Z) ≤ a1) :
    Mt l Z M65 C27 2 (some .int) [] ⟨2, 0, 0, 25⟩ #[.ref a1] h0 (fun v h L => (v = some (.int 99) ∧ Fr (ζ Z) L ∧ Keep h0 h [a1] ∧ Ω1 Z h a1 (.ref a2) (.int 0) (.int 99) (.int 0))) := by
  refine g_be (pf pn16) (ef_15 a1) fun T0 K X0 e0 => ?_
  refine G0 X0 K d53_0 rfl rfl ?_
  refine G51 8 X0 K d53_1 (by decide) (by decide) ?_
  refine G0 X0 K d53_8 rfl rfl ?_
  refine G8 X0 K (W := 0) (w410 H) (w411 H) (nf_top (args := #[]) (mvT K.z (w113 H))) (w413 H) (w414 H) (w28 H) (w415 H) (by decide) (rm54_108 H a1 a2 k1 Ol0 B_1 A_1 ge_1) e0 B_1.1 rfl rfl rfl (lenOf pd_23 rfl) rfl d53_9 (by decide) ?_
  rintro T1 v1 L1 X1 ⟨rfl, N1q, Kc1, g1⟩
  obtain ⟨N1, Ol1, Kp1⟩ := ivK (Fr.nil _) Ol0 (Keep.refl h0 [a1]) N1q Kc1 (allS ge_1 all0) (kaS (ow 0 rfl) all0)
  show Go _ _ _ _ _ (mkF _ _ _ [.int 99])
  refine G9 X1 K d53_12 rfl ?_
  refine G24 X1 K (L' := #[vr a1, vi 99]) d53_13 rfl ?_
  refine G1 X1 K d53_14 rfl ?_
  refine G29 X1 K (v := 16) d53_15 (by decide) ?_
  refine G57 X1 K d53_17 (z := 0) (by decide) ?_
  refine G58 X1 K d53_18 (z := 99) (by decide) ?_
  refine G18 X1 K d53_19 (by decide) (by decide) ?_
  exact ⟨rfl, N1, Kp1, g1⟩
theorem rm60_110 (H : Hyp Z a0) (a1 a2 : Addr) (Ol0 : Old Z (ζ Z) h0) (B_1 : Ω9 Z h0 a1 (.int 0) .null .null .null) (ge_1 : (ζ Z) ≤ a1) :
    Mt l Z M73 C18 5 none [] ⟨1, 0, 0, 12⟩ #[.ref a1, .int 99, .ref a2, (.ref (el0 Z a0 130)), .null] h0 (fun v h L => (v = none ∧ Fr (ζ Z) L ∧ Keep h0 h [a1] ∧ Ω9 Z h a1 (.int 99) (.ref a2) (.ref (el0 Z a0 130)) .null)) := by
  refine g_be (pf pn17) (ef_38 a1 a2 (el0 Z a0 130)) fun T0 K X0 e0 => ?_
  refine G0 X0 K d60_0 rfl rfl ?_
  refine G40 X0 K (W := 0) (w455 H) (w20 H) (w21 H) e0 rfl d60_1 (by decide) (Nat.le_of_eq rfl) (by decide) ?_
  intro T1 X1 e1
  refine G0 X1 K d60_4 rfl rfl ?_
  refine G1 X1 K d60_5 rfl ?_
  refine G5 X1 K (w456 H) Via.refl e1 B_1.2.1 B_1.1 (Or.inr ⟨(w457 H), rfl, rfl⟩) (w449 H) (ty := .int) (by decide) rfl rfl d60_6 ?_
  intro T2 h2 X2 e2 W2 F2
  obtain ⟨N2, Ol2, Kp2⟩ := ivW (Fr.nil _) Ol0 (Keep.refl h0 [a1]) X2 W2 ge_1 (ow 0 rfl)
  have O2 := Ω9.s0 H B_1 W2
  refine G0 X2 K d60_9 rfl rfl ?_
  refine G0 X2 K d60_10 rfl rfl ?_
  refine G5 X2 K (w458 H) Via.refl e2 O2.2.2.1 O2.1 (Or.inr ⟨(w459 H), rfl, rfl⟩) (w449 H) (ty := (.object Q3)) (by decide) rfl rfl d60_11 ?_
  intro T3 h3 X3 e3 W3 F3
  obtain ⟨N3, Ol3, Kp3⟩ := ivW N2 Ol2 Kp2 X3 W3 ge_1 (ow 0 rfl)
  have O3 := Ω9.s1 H O2 W3
  refine G0 X3 K d60_14 rfl rfl ?_
  refine G0 X3 K d60_15 rfl rfl ?_
  refine G5 X3 K (w460 H) Via.refl e3 O3.2.2.2.1 O3.1 (Or.inl (w461 H)) (w449 H) (ty := (.object Q3)) (by decide) rfl rfl d60_16 ?_
  intro T4 h4 X4 e4 W4 F4
  obtain ⟨N4, Ol4, Kp4⟩ := ivW N3 Ol3 Kp3 X4 W4 ge_1 (ow 0 rfl)
  have O4 := Ω9.s2 H O3 W4
  refine G0 X4 K d60_19 rfl rfl ?_
  refine G7 X4 K d60_20 rfl rfl ?_
  refine G5 X4 K (w462 H) Via.refl e4 O4.2.2.2.2 O4.1 (Or.inl (w463 H)) (w449 H) (ty := (.object Q6)) (by decide) rfl rfl d60_22 ?_
  intro T5 h5 X5 e5 W5 F5
  obtain ⟨N5, Ol5, Kp5⟩ := ivW N4 Ol4 Kp4 X5 W5 ge_1 (ow 0 rfl)
  have O5 := Ω9.s3 H O4 W5
  refine G17 X5 K d60_25 (by decide) (by decide) ?_
  have Kp : Keep h0 T5.heap [a1] := by rw [e5]; exact Kp5
  exact ⟨rfl, N5, Kp, (by rw [e5]; exact O5)⟩
theorem rm59_111 (H : Hyp Z a0) (a1 a2 : Addr) (Ol0 : Old Z (ζ Z) h0) :
    Mt l Z M72 C36 5 (some (.object Q6)) [] ⟨2, 1, 4, 29⟩ #[.ref a1, .int 99, .ref a2, (.ref (el0 Z a0 130)), .null] h0 (fun v h L => (∃ (b1 : Addr), v = some (.ref b1) ∧ Fr (ζ Z) L ∧ Keep h0 h [] ∧ h0.size ≤ b1 ∧ Ω9 Z h b1 (.int 99) (.ref a2) (.ref (el0 Z a0 130)) .null)) := by
  refine g_be (pf pn16) (ef_38 a1 a2 (el0 Z a0 130)) fun T0 K X0 e0 => ?_
  refine G27 X0 K (w442 H) (w449 H) (w450 H) e0 d59_0 (by decide) (by decide) ?_
  intro T1 h1 b1 X1 e1 E1 z1 A1 D1
  obtain ⟨sz1, ge1, Ol1, Kp1⟩ := ivE Ol0 (Keep.refl h0 []) E1 z1
  have so1 := Sd.one b1
  have O1 := Ω9.new H A1 D1
  refine G9 X1 K d59_3 rfl ?_
  refine G1 X1 K d59_4 rfl ?_
  refine G0 X1 K d59_5 rfl rfl ?_
  refine G0 X1 K d59_6 rfl rfl ?_
  refine G7 X1 K d59_7 rfl rfl ?_
  refine G23 X1 K (W := 1) rfl (w451 H) (w452 H) (w450 H) (w454 H) (by decide) (rm60_110 H b1 a2 Ol1 O1 ge1) e1 rfl rfl rfl (lenOf pd_32 rfl) rfl d59_9 (by decide) ?_
  rintro T2 v2 L2 X2 ⟨rfl, N2q, Kc2, g1⟩
  obtain ⟨N2, Ol2, Kp2⟩ := ivK (Fr.nil _) Ol1 Kp1 N2q Kc2 (allS ge1 all0) (kaS (Or.inr sz1) all0)
  show Go _ _ _ _ _ (mkF _ _ _ [.ref b1])
  refine G13 X2 K rfl rfl rfl d59_12 (by decide) (by decide) ?_
  exact ⟨b1, rfl, N2, Kp2, sz1, g1⟩
theorem rm57_112 (H : Hyp Z a0) (a1 a2 a3 a4 a5 : Addr) (k1 : ClassId) (Ol0 : Old Z (ζ Z) h0) (B_1 : Ω5 Z h0 a1 (.float 1061158912) (.ref a3) (.int 12) (.int 2) (.int 2)) (A_1 : Arv Z h0 a3 k1 (.object Q6) 16 [.null, .ref a4, .ref a5, .null, .null, .null, .null, .null, .null, .null, .null, .null, .null, .null, .null, .null] .null) (O_1 : Ovr Z k1 Q6) (ge_1 : (ζ Z) ≤ a3) (ne_1 : a1 ≠ a3) (ge_2 : (ζ Z) ≤ a1) (ne_2 : a3 ≠ a1) :
    Mt l Z M70 C3 13 (some (.object Q3)) [] ⟨3, 1, 4, 47⟩ #[.ref a1, .int 99, .ref a2, (.ref (el0 Z a0 130)), .int 0, .int 1] h0 (fun v h L => (∃ (bx1 : Addr), v = some .null ∧ Fr (ζ Z) L ∧ Keep h0 h [a3, a1] ∧ h0.size ≤ bx1 ∧ Arv Z h a3 k1 (.object Q6) 16 [.null, .ref a4, .ref a5, .ref bx1, .null, .null, .null, .null, .null, .null, .null, .null, .null, .null, .null, .null] .null ∧ Ω5 Z h a1 (.float 1061158912) (.ref a3) (.int 12) (.int 3) (.int 3) ∧ Ω9 Z h bx1 (.int 99) (.ref a2) (.ref (el0 Z a0 130)) .null)) := by
  refine g_be (pf pn16) (ef_39 a1 a2 (el0 Z a0 130)) fun T0 K X0 e0 => ?_
  refine G0 X0 K d57_0 rfl rfl ?_
  refine G2 X0 K (w433 H) Via.refl e0 B_1.2.2.1 d57_1 ?_
  intro T1 X1 e1
  refine G9 X1 K d57_4 rfl ?_
  refine G26 X1 K (L' := #[vr a1, vi 99, vr a2, vr (el0 Z a0 130), vi 0, vi 1, vr a3, un, un, un, un, un, un]) d57_5 rfl rfl ?_
  refine G62 X1 K d57_7 ?_
  refine G7 X1 K d57_10 rfl rfl ?_
  refine G21 X1 K e1 A_1 d57_12 ?_
  refine G9 X1 K d57_13 rfl ?_
  refine G12 X1 K (L' := #[vr a1, vi 99, vr a2, vr (el0 Z a0 130), vi 0, vi 1, vr a3, un, vi 16, un, un, un, un]) d57_14 rfl ?_
  refine G15 29 X1 K d57_16 (by decide) (by decide) (by decide) ?_
  refine G7 X1 K d57_29 rfl rfl ?_
  refine G4 X1 K d57_31 rfl ?_
  refine G3 X1 K (v := 1) d57_33 (by decide) ?_
  refine G45 X1 K d57_34 (z := 15) (by decide) ?_
  refine G1 X1 K d57_35 rfl ?_
  refine G30 X1 K d57_36 (z := 3) (by decide) ?_
  refine G9 X1 K d57_37 rfl ?_
  refine G12 X1 K (L' := #[vr a1, vi 99, vr a2, vr (el0 Z a0 130), vi 0, vi 1, vr a3, un, vi 16, vi 3, un, un, un]) d57_38 rfl ?_
  refine G36 X1 K (v := .null) e1 A_1 rfl (by decide) rfl d57_40 ?_
  refine G9 X1 K d57_41 rfl ?_
  refine G26 X1 K (L' := #[vr a1, vi 99, vr a2, vr (el0 Z a0 130), vi 0, vi 1, vr a3, vn, vi 16, vi 3, un, un, un]) d57_42 rfl rfl ?_
  refine G52 X1 K d57_44 ?_
  refine G7 X1 K d57_47 rfl rfl ?_
  refine G4 X1 K d57_49 rfl ?_
  refine G0 X1 K d57_51 rfl rfl ?_
  refine G1 X1 K d57_52 rfl ?_
  refine G0 X1 K d57_53 rfl rfl ?_
  refine G0 X1 K d57_54 rfl rfl ?_
  refine G28 X1 K d57_55 ?_
  refine G8 X1 K (W := 2) (w444 H) (w445 H) (nf_self K (w447 H)) (w447 H) (w446 H) (w212 H) (w448 H) (by decide) (rm59_111 H a1 a2 Ol0) e1 B_1.1 rfl rfl rfl (lenOf pd_33 rfl) rfl d57_56 (by decide) ?_
  rintro T2 v2 L2 X2 ⟨bx1, rfl, N2q, Kc2, lz2_0, g1⟩
  have szbx1 := Nat.le_trans (Keep.refl h0 [a3, a1]).1 lz2_0
  have gebx1 := Nat.le_trans Ol0.2.1 lz2_0
  have so1 := Sd.one bx1
  obtain ⟨N2, Ol2, Kp2⟩ := ivK (Fr.nil _) Ol0 (Keep.refl h0 [a3, a1]) N2q Kc2 all0 all0
  show Go _ _ _ _ _ (mkF _ _ _ [.ref bx1, .int 3, .ref a3])
  have f1 := (A_1.keep Kc2 nin0)
  refine G32 X2 K (vs' := [.null, .ref a4, .ref a5, .ref bx1, .null, .null, .null, .null, .null, .null, .null, .null, .null, .null, .null, .null]) rfl f1 (Or.inr ⟨_, rfl, O_1, (Ins.self g1.1)⟩) (by decide) (Nat.le_of_ble_eq_true rfl) rfl d57_59 ?_
  intro T3 h3 X3 e3 W3 F3
  obtain ⟨N3, Ol3, Kp3⟩ := ivW N2 Ol2 Kp2 X3 W3 ge_1 (ow 0 rfl)
  refine G6 259 X3 K d57_60 (by decide) (by decide) ?_
  refine G0 X3 K d57_259 rfl rfl ?_
  refine G9 X3 K d57_260 rfl ?_
  have f2 := ((B_1.keep Kc2 nin0).other W3 ne_1)
  refine G2 X3 K (w464 H) Via.refl e3 f2.2.2.2.2.1 d57_261 ?_
  intro T4 X4 e4
  refine G3 X4 K (v := 1) d57_264 (by decide) ?_
  refine G16 X4 K d57_265 (z := 3) (by decide) ?_
  refine G5 X4 K (w464 H) Via.refl e4 f2.2.2.2.2.1 f2.1 (Or.inl (w465 H)) (w211 H) (ty := .int) (by decide) rfl rfl d57_266 ?_
  intro T5 h5 X5 e5 W5 F5
  obtain ⟨N5, Ol5, Kp5⟩ := ivW N3 Ol3 Kp3 X5 W5 ge_2 (ow 1 rfl)
  have O5 := Ω5.s3 H f2 W5
  refine G0 X5 K d57_269 rfl rfl ?_
  refine G9 X5 K d57_270 rfl ?_
  refine G2 X5 K (w466 H) Via.refl e5 O5.2.2.2.2.2 d57_271 ?_
  intro T6 X6 e6
  refine G3 X6 K (v := 1) d57_274 (by decide) ?_
  refine G16 X6 K d57_275 (z := 3) (by decide) ?_
  refine G46 X6 K d57_276 rfl rfl ?_
  refine G5 X6 K (w466 H) Via.refl e6 O5.2.2.2.2.2 O5.1 (Or.inl (w467 H)) (w211 H) (ty := .int) (by decide) rfl rfl d57_277 ?_
  intro T7 h7 X7 e7 W7 F7
  obtain ⟨N7, Ol7, Kp7⟩ := ivW N5 Ol5 Kp5 X7 W7 ge_2 (ow 1 rfl)
  have O7 := Ω5.s4 H O5 W7
  refine G0 X7 K d57_280 rfl rfl ?_
  refine G2 X7 K (w440 H) Via.refl e7 O7.2.2.2.1 d57_281 ?_
  intro T8 X8 e8
  refine G19 292 X8 K d57_284 (by decide) (by decide) (by decide) ?_
  refine G0 X8 K d57_292 rfl rfl ?_
  refine G4 X8 K d57_293 rfl ?_
  refine G8 X8 K (W := 0) (w468 H) (w469 H) (nf_self K (w471 H)) (w471 H) (w470 H) (w212 H) (w472 H) (by decide) (rm61_89 H a1 Ol7) e8 O7.1 rfl rfl rfl (lenOf pd_34 rfl) rfl d57_295 (by decide) ?_
  rintro T9 v9 L9 X9 ⟨rfl, N9q, e9⟩
  have N9 := Fr.app N7 N9q
  show Go _ _ _ _ _ (mkF _ _ _ [])
  refine G28 X9 K d57_298 ?_
  refine G13 X9 K rfl rfl rfl d57_299 (by decide) (by decide) ?_
  have Kp : Keep h0 T9.heap [a3, a1] := by rw [e9]; exact Kp7
  have f3 := ((F3.other W5 ne_2).other W7 ne_2)
  have ne1 : a3 ≠ bx1 := (Nat.ne_of_lt (Nat.lt_of_lt_of_le A_1.lt szbx1))
  have ne2 : a1 ≠ bx1 := (Nat.ne_of_lt (Nat.lt_of_lt_of_le B_1.lt szbx1))
  have f4 := (((g1.other W3 (Ne.symm ne1)).other W5 (Ne.symm ne2)).other W7 (Ne.symm ne2))
  exact ⟨bx1, rfl, N9, Kp, szbx1, (by rw [e9]; exact f3), (by rw [e9]; exact O7), (by rw [e9]; exact f4)⟩
theorem rm52_113 (H : Hyp Z a0) (a1 a2 a3 : Addr) (k1 : ClassId) (a4 a5 a6 : Addr) (k2 : ClassId) (Ol0 : Old Z (ζ Z) h0) (B_1 : Ω1 Z h0 a2 (.ref a3) (.int 0) (.int 0) (.int 0)) (A_1 : Arv Z h0 a3 k1 .byte 1 [.int 99] (.int 0)) (ge_1 : (ζ Z) ≤ a2) (B_2 : Ω5 Z h0 a1 (.float 1061158912) (.ref a4) (.int 12) (.int 2) (.int 2)) (A_2 : Arv Z h0 a4 k2 (.object Q6) 16 [.null, .ref a5, .ref a6, .null, .null, .null, .null, .null, .null, .null, .null, .null, .null, .null, .null, .null] .null) (ne_1 : a1 ≠ a2) (ne_2 : a4 ≠ a2) (O_1 : Ovr Z k2 Q6) (ge_2 : (ζ Z) ≤ a4) (ne_3 : a1 ≠ a4) (ge_3 : (ζ Z) ≤ a1) (ne_4 : a4 ≠ a1) (ne_5 : a2 ≠ a1) (ne_6 : a2 ≠ a4) :
    Mt l Z M64 C32 3 (some (.object Q3)) [] ⟨4, 1, 4, 71⟩ #[.ref a1, .ref a2, (.ref (el0 Z a0 130))] h0 (fun v h L => (∃ (bx1 : Addr), v = some .null ∧ Fr (ζ Z) L ∧ Keep h0 h [a2, a4, a1] ∧ h0.size ≤ bx1 ∧ Ω1 Z h a2 (.ref a3) (.int 0) (.int 99) (.int 0) ∧ Arv Z h a4 k2 (.object Q6) 16 [.null, .ref a5, .ref a6, .ref bx1, .null, .null, .null, .null, .null, .null, .null, .null, .null, .null, .null, .null] .null ∧ Ω5 Z h a1 (.float 1061158912) (.ref a4) (.int 12) (.int 3) (.int 3) ∧ Ω9 Z h bx1 (.int 99) (.ref a2) (.ref (el0 Z a0 130)) .null)) := by
  refine g_be (pf pn16) (ef_16 a1 a2 (el0 Z a0 130)) fun T0 K X0 e0 => ?_
  refine G0 X0 K d52_0 rfl rfl ?_
  refine G0 X0 K d52_1 rfl rfl ?_
  refine G14 X0 K (W := 1) (w407 H) (w408 H) (w212 H) (w409 H) (by decide) (rm53_109 H a2 a3 k1 Ol0 B_1 A_1 ge_1) e0 rfl rfl rfl (lenOf pd_30 rfl) rfl d52_2 (by decide) ?_
  rintro T1 v1 L1 X1 ⟨rfl, N1q, Kc1, g1⟩
  obtain ⟨N1, Ol1, Kp1⟩ := ivK (Fr.nil _) Ol0 (Keep.refl h0 [a2, a4, a1]) N1q Kc1 (allS ge_1 all0) (kaS (ow 0 rfl) all0)
  show Go _ _ _ _ _ (mkF _ _ _ [.int 99, .ref a1])
  refine G0 X1 K d52_5 rfl rfl ?_
  refine G0 X1 K d52_6 rfl rfl ?_
  refine G3 X1 K (v := 0) d52_7 (by decide) ?_
  refine G3 X1 K (v := 1) d52_8 (by decide) ?_
  have f1 := (B_2.keep Kc1 (ninS ne_1 nin0))
  have f2 := (A_2.keep Kc1 (ninS ne_2 nin0))
  refine G8 X1 K (W := 0) (w428 H) (w429 H) (nf_self K (w431 H)) (w431 H) (w430 H) (w212 H) (w432 H) (by decide) (rm57_112 H a1 a2 a4 a5 a6 k2 Ol1 f1 f2 O_1 ge_2 ne_3 ge_3 ne_4) rfl f1.1 rfl rfl rfl (lenOf pd_35 rfl) rfl d52_9 (by decide) ?_
  rintro T2 v2 L2 X2 ⟨bx1, rfl, N2q, Kc2, lz2_0, g2, g3, g4⟩
  have szbx1 := Nat.le_trans Kp1.1 lz2_0
  have gebx1 := Nat.le_trans Ol1.2.1 lz2_0
  have so1 := Sd.one bx1
  obtain ⟨N2, Ol2, Kp2⟩ := ivK N1 Ol1 Kp1 N2q Kc2 (allS ge_2 (allS ge_3 all0)) (kaS (ow 1 rfl) (kaS (ow 2 rfl) all0))
  show Go _ _ _ _ _ (mkF _ _ _ [.null])
  refine G13 X2 K rfl rfl rfl d52_12 (by decide) (by decide) ?_
  have f3 := (g1.keep Kc2 (ninS ne_6 (ninS ne_5 nin0)))
  exact ⟨bx1, rfl, N2, Kp2, szbx1, f3, g2, g3, g4⟩
theorem rm48_114 (H : Hyp Z a0) (a1 a2 : Addr) (Ol0 : Old Z (ζ Z) h0) (B_1 : Ω8 Z h0 a1 (.ref a2) (.int 3) (.int 3) (.int 0)) :
    Mt l Z M59 C40 1 (some .boolean) [] ⟨0, 0, 0, 0⟩ #[.ref a1] h0 (fun v h L => (v = some (.int 0) ∧ Fr (ζ Z) L ∧ h = h0)) := by
  refine g_be (pf pn22) (ef_0 a1) fun T0 K X0 e0 => ?_
  refine G0 X0 K d48_0 rfl rfl ?_
  refine G2 X0 K (w370 H) Via.refl e0 B_1.2.2.2.1 d48_1 ?_
  intro T1 X1 e1
  refine G0 X1 K d48_4 rfl rfl ?_
  refine G2 X1 K (tw H 368 rfl) Via.refl e1 B_1.2.2.1 d48_5 ?_
  intro T2 X2 e2
  refine G19 15 X2 K d48_8 (by decide) (by decide) (by decide) ?_
  refine G3 X2 K (v := 0) d48_15 (by decide) ?_
  refine G31 X2 K (by simp) (z' := 0) (by decide) d48_16 (by decide) (by decide) ?_
  exact ⟨rfl, (Fr.nil _), e2⟩
theorem rm43_115 (H : Hyp Z a0) (a1 a2 a3 : Addr) (Ol0 : Old Z (ζ Z) h0) (B_1 : Ω7 Z h0 a1 (.ref a2) (.int 0) (.int 2) (.int 1)) (B_2 : Ω0 Z h0 a2 (.int 2) (.ref a3) (.int 2)) :
    Mt l Z M51 C39 1 (some .boolean) [] ⟨0, 0, 0, 0⟩ #[.ref a1] h0 (fun v h L => (v = some (.int 1) ∧ Fr (ζ Z) L ∧ h = h0)) := by
  refine g_be (pf pn13) (ef_0 a1) fun T0 K X0 e0 => ?_
  refine G0 X0 K d43_0 rfl rfl ?_
  refine G2 X0 K (w332 H) Via.refl e0 B_1.2.2.2.2 d43_1 ?_
  intro T1 X1 e1
  refine G0 X1 K d43_4 rfl rfl ?_
  refine G2 X1 K (w315 H) Via.refl e1 B_1.2.1 d43_5 ?_
  intro T2 X2 e2
  refine G61 X2 K (tw H 334 rfl) Via.refl e2 B_2.2.2.2 d43_8 ?_
  intro T3 X3 e3
  refine G10 X3 K d43_11 (by decide) ?_
  refine G3 X3 K (v := 1) d43_14 (by decide) ?_
  refine G6 19 X3 K d43_15 (by decide) (by decide) ?_
  refine G31 X3 K (by simp) (z' := 1) (by decide) d43_19 (by decide) (by decide) ?_
  exact ⟨rfl, (Fr.nil _), e3⟩
theorem rm45_116 (H : Hyp Z a0) (a1 a2 a3 : Addr) (Ol0 : Old Z (ζ Z) h0) (B_1 : Ω7 Z h0 a1 (.ref a2) (.int 0) (.int 2) (.int 1)) (B_2 : Ω0 Z h0 a2 (.int 2) (.ref a3) (.int 2)) :
    Mt l Z M54 C51 1 none [] ⟨0, 0, 0, 0⟩ #[.ref a1] h0 (fun v h L => (v = none ∧ Fr (ζ Z) L ∧ h = h0)) := by
  refine g_be (pf pn13) (ef_0 a1) fun T0 K X0 e0 => ?_
  refine G0 X0 K d45_0 rfl rfl ?_
  refine G2 X0 K (w315 H) Via.refl e0 B_1.2.1 d45_1 ?_
  intro T1 X1 e1
  refine G2 X1 K (tw H 320 rfl) (Via.of (w64 H)) e1 B_2.2.1 d45_4 ?_
  intro T2 X2 e2
  refine G0 X2 K d45_7 rfl rfl ?_
  refine G2 X2 K (tw H 321 rfl) Via.refl e2 B_1.2.2.2.1 d45_8 ?_
  intro T3 X3 e3
  refine G19 22 X3 K d45_11 (by decide) (by decide) (by decide) ?_
  refine G17 X3 K d45_22 (by decide) (by decide) ?_
  exact ⟨rfl, (Fr.nil _), e3⟩
theorem rm44_117 (H : Hyp Z a0) (a1 a2 a3 a4 a5 : Addr) (k1 : ClassId) (Ol0 : Old Z (ζ Z) h0) (B_1 : Ω7 Z h0 a1 (.ref a2) (.int 0) (.int 2) (.int 1)) (B_2 : Ω0 Z h0 a2 (.int 2) (.ref a3) (.int 2)) (A_1 : Arv Z h0 a3 k1 (.object Q3) 10 [.ref a4, .ref a5, .null, .null, .null, .null, .null, .null, .null, .null] .null) (ge_1 : (ζ Z) ≤ a1) (ne_1 : a3 ≠ a1) :
    Mt l Z M53 C7 3 (some (.object Q3)) [] ⟨1, 0, 0, 12⟩ #[.ref a1] h0 (fun v h L => (v = some (.ref a5) ∧ Fr (ζ Z) L ∧ Keep h0 h [a1] ∧ Ω7 Z h a1 (.ref a2) (.int 1) (.int 2) (.int 2))) := by
  refine g_be (pf pn13) (ef_14 a1) fun T0 K X0 e0 => ?_
  have nw_a3 : a3 ∉ [a1] := (ninS ne_1 nin0)
  refine G0 X0 K d44_0 rfl rfl ?_
  refine G8 X0 K (W := 0) (tw H 343 rfl) (tw H 344 rfl) (nf_self K (tw H 346 rfl)) (tw H 346 rfl) (tw H 345 rfl) (w310 H) (tw H 347 rfl) (by decide) (rm45_116 H a1 a2 a3 Ol0 B_1 B_2) e0 B_1.1 rfl rfl rfl (lenOf pd_0 rfl) rfl d44_1 (by decide) ?_
  rintro T1 v1 L1 X1 ⟨rfl, N1q, e1⟩
  have N1 := Fr.app (Fr.nil _) N1q
  show Go _ _ _ _ _ (mkF _ _ _ [])
  refine G0 X1 K d44_4 rfl rfl ?_
  refine G2 X1 K (w332 H) Via.refl e1 B_1.2.2.2.2 d44_5 ?_
  intro T2 X2 e2
  refine G24 X2 K (L' := #[vr a1, vi 1, un]) d44_8 rfl ?_
  refine G1 X2 K d44_9 rfl ?_
  refine G0 X2 K d44_10 rfl rfl ?_
  refine G2 X2 K (w315 H) Via.refl e2 B_1.2.1 d44_11 ?_
  intro T3 X3 e3
  refine G61 X3 K (tw H 334 rfl) Via.refl e3 B_2.2.2.2 d44_14 ?_
  intro T4 X4 e4
  refine G19 28 X4 K d44_17 (by decide) (by decide) (by decide) ?_
  refine G0 X4 K d44_28 rfl rfl ?_
  refine G2 X4 K (w315 H) Via.refl e4 B_1.2.1 d44_29 ?_
  intro T5 X5 e5
  refine G2 X5 K (tw H 348 rfl) Via.refl e5 B_2.2.2.1 d44_32 ?_
  intro T6 X6 e6
  refine G38 X6 K (L' := #[vr a1, vi 1, vr a3]) d44_35 rfl rfl ?_
  refine G1 X6 K d44_36 rfl ?_
  refine G0 X6 K d44_37 rfl rfl ?_
  refine G21 X6 K e6 A_1 d44_38 ?_
  refine G19 50 X6 K d44_39 (by decide) (by decide) (by decide) ?_
  refine G0 X6 K d44_50 rfl rfl ?_
  refine G1 X6 K d44_51 rfl ?_
  refine G3 X6 K (v := 1) d44_52 (by decide) ?_
  refine G16 X6 K d44_53 (z := 2) (by decide) ?_
  refine G5 X6 K (w332 H) Via.refl e6 B_1.2.2.2.2 B_1.1 (Or.inl (tw H 333 rfl)) (w309 H) (ty := .int) (by decide) rfl rfl d44_54 ?_
  intro T7 h7 X7 e7 W7 F7
  obtain ⟨N7, Ol7, Kp7⟩ := ivW N1 Ol0 (Keep.refl h0 [a1]) X7 W7 ge_1 (ow 0 rfl)
  have O7 := Ω7.s3 H B_1 W7
  refine G0 X7 K d44_57 rfl rfl ?_
  refine G0 X7 K d44_58 rfl rfl ?_
  refine G1 X7 K d44_59 rfl ?_
  refine G46 X7 K d44_60 rfl rfl ?_
  refine G5 X7 K (tw H 318 rfl) Via.refl e7 O7.2.2.1 O7.1 (Or.inl (tw H 319 rfl)) (w309 H) (ty := .int) (by decide) rfl rfl d44_61 ?_
  intro T8 h8 X8 e8 W8 F8
  obtain ⟨N8, Ol8, Kp8⟩ := ivW N7 Ol7 Kp7 X8 W8 ge_1 (ow 0 rfl)
  have O8 := Ω7.s1 H O7 W8
  have f1 := A_1.keep Kp8 nw_a3
  refine G36 X8 K (v := (.ref a5)) e8 f1 rfl (by decide) rfl d44_64 ?_
  refine G13 X8 K rfl rfl rfl d44_65 (by decide) (by decide) ?_
  have Kp : Keep h0 T8.heap [a1] := by rw [e8]; exact Kp8
  exact ⟨rfl, N8, Kp, (by rw [e8]; exact O8)⟩
theorem rm51_118 (H : Hyp Z a0) (Ol0 : Old Z (ζ Z) h0) :
    Mt l Z M62 C23 1 (some (.object Q24)) [] ⟨0, 0, 0, 0⟩ #[.int 3] h0 (fun v h L => (v = some (.ref (el0 Z a0 131)) ∧ Fr (ζ Z) L ∧ h = h0)) := by
  refine g_be (pf pn5) ef_40 fun T0 K X0 e0 => ?_
  refine G1 X0 K d51_0 rfl ?_
  refine G29 X0 K (v := (-128)) d51_1 (by decide) ?_
  refine G10 X0 K d51_3 (by decide) ?_
  refine G1 X0 K d51_6 rfl ?_
  refine G33 X0 K (w395 H) e0 ((si_high H).ext Ol0.2) d51_7 ?_
  intro T1 X1 e1
  refine G10 X1 K d51_10 (by decide) ?_
  refine G33 X1 K (w397 H) e1 ((s2 H).ext Ol0.2) d51_13 ?_
  intro T2 X2 e2
  refine G1 X2 K d51_16 rfl ?_
  refine G34 X2 K (v := 128) d51_17 (by decide) ?_
  refine G16 X2 K d51_20 (z := 131) (by decide) ?_
  refine G55 X2 K e2 (let ⟨cl, q1, q2, q3⟩ := tb2 H 131 (by decide); ⟨cl, q1.ext Ol0.2, q2, q3⟩) rfl d51_21 ?_
  refine G13 X2 K rfl rfl rfl d51_22 (by decide) (by decide) ?_
  exact ⟨rfl, (Fr.nil _), e2⟩
theorem rm56_119 (H : Hyp Z a0) (a1 : Addr) (k1 : ClassId) (Ol0 : Old Z (ζ Z) h0) (A_1 : Arv Z h0 a1 k1 .byte 1 [.int 100] (.int 0)) :
    Mt l Z M69 C28 1 (some .int) [] ⟨0, 0, 0, 0⟩ #[.ref a1] h0 (fun v h L => (v = some (.int 100) ∧ Fr (ζ Z) L ∧ h = h0)) := by
  refine g_be (pf pn8) (ef_0 a1) fun T0 K X0 e0 => ?_
  refine G0 X0 K d56_0 rfl rfl ?_
  refine G21 X0 K e0 A_1 d56_1 ?_
  refine G56 32 X0 K (i := 1) (a := 1) (o := 30) d56_2 (by decide) (by decide) (by decide) (by decide) ?_
  refine G0 X0 K d56_32 rfl rfl ?_
  refine G3 X0 K (v := 0) d56_33 (by decide) ?_
  refine G42 X0 K (v := (.int 100)) e0 A_1 (by decide) rfl d56_34 ?_
  refine G34 X0 K (v := 255) d56_35 (by decide) ?_
  refine G30 X0 K d56_38 (z := 100) (by decide) ?_
  refine G6 51 X0 K d56_39 (by decide) (by decide) ?_
  refine G18 X0 K d56_51 (by decide) (by decide) ?_
  exact ⟨rfl, (Fr.nil _), e0⟩
theorem rm54_120 (H : Hyp Z a0) (a1 a2 : Addr) (k1 : ClassId) (Ol0 : Old Z (ζ Z) h0) (B_1 : Ω1 Z h0 a1 (.ref a2) (.int 0) (.int 0) (.int 0)) (A_1 : Arv Z h0 a2 k1 .byte 1 [.int 100] (.int 0)) (ge_1 : (ζ Z) ≤ a1) :
    Mt l Z M67 C8 2 (some .int) [] ⟨1, 0, 0, 12⟩ #[.ref a1] h0 (fun v h L => (v = some (.int 100) ∧ Fr (ζ Z) L ∧ Keep h0 h [a1] ∧ Ω1 Z h a1 (.ref a2) (.int 0) (.int 100) (.int 0))) := by
  refine g_be (pf pn7) (ef_15 a1) fun T0 K X0 e0 => ?_
  refine G0 X0 K d54_0 rfl rfl ?_
  refine G2 X0 K (w416 H) Via.refl e0 B_1.2.2.2.1 d54_1 ?_
  intro T1 X1 e1
  refine G24 X1 K (L' := #[vr a1, vi 0]) d54_4 rfl ?_
  refine G1 X1 K d54_5 rfl ?_
  refine G11 X1 K d54_6 (by decide) ?_
  refine G0 X1 K d54_9 rfl rfl ?_
  refine G2 X1 K (w418 H) Via.refl e1 B_1.2.2.2.2 d54_10 ?_
  intro T2 X2 e2
  refine G11 X2 K d54_13 (by decide) ?_
  refine G0 X2 K d54_16 rfl rfl ?_
  refine G8 X2 K (W := 0) (w420 H) (w421 H) (nf_self K (w423 H)) (w423 H) (w422 H) (w28 H) (w424 H) (by decide) (rm55_82 H a1 a2 Ol0 B_1) e2 B_1.1 rfl rfl rfl (lenOf pd_10 rfl) rfl d54_17 (by decide) ?_
  rintro T3 v3 L3 X3 ⟨rfl, N3q, e3⟩
  have N3 := Fr.app (Fr.nil _) N3q
  show Go _ _ _ _ _ (mkF _ _ _ [.int 1])
  refine G11 X3 K d54_20 (by decide) ?_
  refine G0 X3 K d54_23 rfl rfl ?_
  refine G2 X3 K (w56 H) Via.refl e3 B_1.2.1 d54_24 ?_
  intro T4 X4 e4
  refine G14 X4 K (W := 0) (w425 H) (w426 H) (w45 H) (w427 H) (by decide) (rm56_119 H a2 k1 Ol0 A_1) e4 rfl rfl rfl (lenOf pd_29 rfl) rfl d54_27 (by decide) ?_
  rintro T5 v5 L5 X5 ⟨rfl, N5q, e5⟩
  have N5 := Fr.app N3 N5q
  show Go _ _ _ _ _ (mkF _ _ _ [.int 100])
  refine G6 40 X5 K d54_30 (by decide) (by decide) ?_
  refine G24 X5 K (L' := #[vr a1, vi 100]) d54_40 rfl ?_
  refine G1 X5 K d54_41 rfl ?_
  refine G15 53 X5 K d54_42 (by decide) (by decide) (by decide) ?_
  refine G0 X5 K d54_53 rfl rfl ?_
  refine G1 X5 K d54_54 rfl ?_
  refine G5 X5 K (w416 H) Via.refl e5 B_1.2.2.2.1 B_1.1 (Or.inl (w417 H)) (w29 H) (ty := .int) (by decide) rfl rfl d54_55 ?_
  intro T6 h6 X6 e6 W6 F6
  obtain ⟨N6, Ol6, Kp6⟩ := ivW N5 Ol0 (Keep.refl h0 [a1]) X6 W6 ge_1 (ow 0 rfl)
  have O6 := Ω1.s2 H B_1 W6
  refine G1 X6 K d54_58 rfl ?_
  refine G18 X6 K d54_59 (by decide) (by decide) ?_
  have Kp : Keep h0 T6.heap [a1] := by rw [e6]; exact Kp6
  exact ⟨rfl, N6, Kp, (by rw [e6]; exact O6)⟩
theorem rm53_121 (H : Hyp Z a0) (a1 a2 : Addr) (k1 : ClassId) (Ol0 : Old Z (ζ Z) h0) (B_1 : Ω1 Z h0 a1 (.ref a2) (.int 0) (.int 0) (.int 0)) (A_1 : Arv Z h0 a2 k1 .byte 1 [.int 100] (.int 0)) (ge_1 : (ζ Z) ≤ a1) :
    Mt l Z M65 C27 2 (some .int) [] ⟨2, 0, 0, 25⟩ #[.ref a1] h0 (fun v h L => (v = some (.int 100) ∧ Fr (ζ Z) L ∧ Keep h0 h [a1] ∧ Ω1 Z h a1 (.ref a2) (.int 0) (.int 100) (.int 0))) := by
  refine g_be (pf pn16) (ef_15 a1) fun T0 K X0 e0 => ?_
  refine G0 X0 K d53_0 rfl rfl ?_
  refine G51 8 X0 K d53_1 (by decide) (by decide) ?_
  refine G0 X0 K d53_8 rfl rfl ?_
  refine G8 X0 K (W := 0) (w410 H) (w411 H) (nf_top (args := #[]) (mvT K.z (w113 H))) (w413 H) (w414 H) (w28 H) (w415 H) (by decide) (rm54_120 H a1 a2 k1 Ol0 B_1 A_1 ge_1) e0 B_1.1 rfl rfl rfl (lenOf pd_23 rfl) rfl d53_9 (by decide) ?_
  rintro T1 v1 L1 X1 ⟨rfl, N1q, Kc1, g1⟩
  obtain ⟨N1, Ol1, Kp1⟩ := ivK (Fr.nil _) Ol0 (Keep.refl h0 [a1]) N1q Kc1 (allS ge_1 all0) (kaS (ow 0 rfl) all0)
  show Go _ _ _ _ _ (mkF _ _ _ [.int 100])
  refine G9 X1 K d53_12 rfl ?_
  refine G24 X1 K (L' := #[vr a1, vi 100]) d53_13 rfl ?_
  refine G1 X1 K d53_14 rfl ?_
  refine G29 X1 K (v := 16) d53_15 (by decide) ?_
  refine G57 X1 K d53_17 (z := 0) (by decide) ?_
  refine G58 X1 K d53_18 (z := 100) (by decide) ?_
  refine G18 X1 K d53_19 (by decide) (by decide) ?_
  exact ⟨rfl, N1, Kp1, g1⟩
theorem rm60_122 (H : Hyp Z a0) (a1 a2 : Addr) (Ol0 : Old Z (ζ Z) h0) (B_1 : Ω9 Z h0 a1 (.int 0) .null .null .null) (ge_1 : (ζ Z) ≤ a1) :
    Mt l Z M73 C18 5 none [] ⟨1, 0, 0, 12⟩ #[.ref a1, .int 100, .ref a2, (.ref (el0 Z a0 131)), .null] h0 (fun v h L => (v = none ∧ Fr (ζ Z) L ∧ Keep h0 h [a1] ∧ Ω9 Z h a1 (.int 100) (.ref a2) (.ref (el0 Z a0 131)) .null)) := by
  refine g_be (pf pn17) (ef_41 a1 a2 (el0 Z a0 131)) fun T0 K X0 e0 => ?_
  refine G0 X0 K d60_0 rfl rfl ?_
  refine G40 X0 K (W := 0) (w455 H) (w20 H) (w21 H) e0 rfl d60_1 (by decide) (Nat.le_of_eq rfl) (by decide) ?_
  intro T1 X1 e1
  refine G0 X1 K d60_4 rfl rfl ?_
  refine G1 X1 K d60_5 rfl ?_
  refine G5 X1 K (w456 H) Via.refl e1 B_1.2.1 B_1.1 (Or.inr ⟨(w457 H), rfl, rfl⟩) (w449 H) (ty := .int) (by decide) rfl rfl d60_6 ?_
  intro T2 h2 X2 e2 W2 F2
  obtain ⟨N2, Ol2, Kp2⟩ := ivW (Fr.nil _) Ol0 (Keep.refl h0 [a1]) X2 W2 ge_1 (ow 0 rfl)
  have O2 := Ω9.s0 H B_1 W2
  refine G0 X2 K d60_9 rfl rfl ?_
  refine G0 X2 K d60_10 rfl rfl ?_
  refine G5 X2 K (w458 H) Via.refl e2 O2.2.2.1 O2.1 (Or.inr ⟨(w459 H), rfl, rfl⟩) (w449 H) (ty := (.object Q3)) (by decide) rfl rfl d60_11 ?_
  intro T3 h3 X3 e3 W3 F3
  obtain ⟨N3, Ol3, Kp3⟩ := ivW N2 Ol2 Kp2 X3 W3 ge_1 (ow 0 rfl)
  have O3 := Ω9.s1 H O2 W3
  refine G0 X3 K d60_14 rfl rfl ?_
  refine G0 X3 K d60_15 rfl rfl ?_
  refine G5 X3 K (w460 H) Via.refl e3 O3.2.2.2.1 O3.1 (Or.inl (w461 H)) (w449 H) (ty := (.object Q3)) (by decide) rfl rfl d60_16 ?_
  intro T4 h4 X4 e4 W4 F4
  obtain ⟨N4, Ol4, Kp4⟩ := ivW N3 Ol3 Kp3 X4 W4 ge_1 (ow 0 rfl)
  have O4 := Ω9.s2 H O3 W4
  refine G0 X4 K d60_19 rfl rfl ?_
  refine G7 X4 K d60_20 rfl rfl ?_
  refine G5 X4 K (w462 H) Via.refl e4 O4.2.2.2.2 O4.1 (Or.inl (w463 H)) (w449 H) (ty := (.object Q6)) (by decide) rfl rfl d60_22 ?_
  intro T5 h5 X5 e5 W5 F5
  obtain ⟨N5, Ol5, Kp5⟩ := ivW N4 Ol4 Kp4 X5 W5 ge_1 (ow 0 rfl)
  have O5 := Ω9.s3 H O4 W5
  refine G17 X5 K d60_25 (by decide) (by decide) ?_
  have Kp : Keep h0 T5.heap [a1] := by rw [e5]; exact Kp5
  exact ⟨rfl, N5, Kp, (by rw [e5]; exact O5)⟩
theorem rm59_123 (H : Hyp Z a0) (a1 a2 : Addr) (Ol0 : Old Z (ζ Z) h0) :
    Mt l Z M72 C36 5 (some (.object Q6)) [] ⟨2, 1, 4, 29⟩ #[.ref a1, .int 100, .ref a2, (.ref (el0 Z a0 131)), .null] h0 (fun v h L => (∃ (b1 : Addr), v = some (.ref b1) ∧ Fr (ζ Z) L ∧ Keep h0 h [] ∧ h0.size ≤ b1 ∧ Ω9 Z h b1 (.int 100) (.ref a2) (.ref (el0 Z a0 131)) .null)) := by
  refine g_be (pf pn16) (ef_41 a1 a2 (el0 Z a0 131)) fun T0 K X0 e0 => ?_
  refine G27 X0 K (w442 H) (w449 H) (w450 H) e0 d59_0 (by decide) (by decide) ?_
  intro T1 h1 b1 X1 e1 E1 z1 A1 D1
  obtain ⟨sz1, ge1, Ol1, Kp1⟩ := ivE Ol0 (Keep.refl h0 []) E1 z1
  have so1 := Sd.one b1
  have O1 := Ω9.new H A1 D1
  refine G9 X1 K d59_3 rfl ?_
  refine G1 X1 K d59_4 rfl ?_
  refine G0 X1 K d59_5 rfl rfl ?_
  refine G0 X1 K d59_6 rfl rfl ?_
  refine G7 X1 K d59_7 rfl rfl ?_
  refine G23 X1 K (W := 1) rfl (w451 H) (w452 H) (w450 H) (w454 H) (by decide) (rm60_122 H b1 a2 Ol1 O1 ge1) e1 rfl rfl rfl (lenOf pd_32 rfl) rfl d59_9 (by decide) ?_
  rintro T2 v2 L2 X2 ⟨rfl, N2q, Kc2, g1⟩
  obtain ⟨N2, Ol2, Kp2⟩ := ivK (Fr.nil _) Ol1 Kp1 N2q Kc2 (allS ge1 all0) (kaS (Or.inr sz1) all0)
  show Go _ _ _ _ _ (mkF _ _ _ [.ref b1])
  refine G13 X2 K rfl rfl rfl d59_12 (by decide) (by decide) ?_
  exact ⟨b1, rfl, N2, Kp2, sz1, g1⟩
theorem rm57_124 (H : Hyp Z a0) (a1 a2 a3 a4 a5 a6 : Addr) (k1 : ClassId) (Ol0 : Old Z (ζ Z) h0) (B_1 : Ω5 Z h0 a1 (.float 1061158912) (.ref a3) (.int 12) (.int 3) (.int 3)) (A_1 : Arv Z h0 a3 k1 (.object Q6) 16 [.null, .ref a4, .ref a5, .ref a6, .null, .null, .null, .null, .null, .null, .null, .null, .null, .null, .null, .null] .null) (O_1 : Ovr Z k1 Q6) (ge_1 : (ζ Z) ≤ a3) (ne_1 : a1 ≠ a3) (ge_2 : (ζ Z) ≤ a1) (ne_2 : a3 ≠ a1) :
    Mt l Z M70 C3 13 (some (.object Q3)) [] ⟨3, 1, 4, 47⟩ #[.ref a1, .int 100, .ref a2, (.ref (el0 Z a0 131)), .int 0, .int 1] h0 (fun v h L => (∃ (bx1 : Addr), v = some .null ∧ Fr (ζ Z) L ∧ Keep h0 h [a3, a1] ∧ h0.size ≤ bx1 ∧ Arv Z h a3 k1 (.object Q6) 16 [.null, .ref a4, .ref a5, .ref a6, .ref bx1, .null, .null, .null, .null, .null, .null, .null, .null, .null, .null, .null] .null ∧ Ω5 Z h a1 (.float 1061158912) (.ref a3) (.int 12) (.int 4) (.int 4) ∧ Ω9 Z h bx1 (.int 100) (.ref a2) (.ref (el0 Z a0 131)) .null)) := by
  refine g_be (pf pn16) (ef_42 a1 a2 (el0 Z a0 131)) fun T0 K X0 e0 => ?_
  refine G0 X0 K d57_0 rfl rfl ?_
  refine G2 X0 K (w433 H) Via.refl e0 B_1.2.2.1 d57_1 ?_
  intro T1 X1 e1
  refine G9 X1 K d57_4 rfl ?_
  refine G26 X1 K (L' := #[vr a1, vi 100, vr a2, vr (el0 Z a0 131), vi 0, vi 1, vr a3, un, un, un, un, un, un]) d57_5 rfl rfl ?_
  refine G62 X1 K d57_7 ?_
  refine G7 X1 K d57_10 rfl rfl ?_
  refine G21 X1 K e1 A_1 d57_12 ?_
  refine G9 X1 K d57_13 rfl ?_
  refine G12 X1 K (L' := #[vr a1, vi 100, vr a2, vr (el0 Z a0 131), vi 0, vi 1, vr a3, un, vi 16, un, un, un, un]) d57_14 rfl ?_
  refine G15 29 X1 K d57_16 (by decide) (by decide) (by decide) ?_
  refine G7 X1 K d57_29 rfl rfl ?_
  refine G4 X1 K d57_31 rfl ?_
  refine G3 X1 K (v := 1) d57_33 (by decide) ?_
  refine G45 X1 K d57_34 (z := 15) (by decide) ?_
  refine G1 X1 K d57_35 rfl ?_
  refine G30 X1 K d57_36 (z := 4) (by decide) ?_
  refine G9 X1 K d57_37 rfl ?_
  refine G12 X1 K (L' := #[vr a1, vi 100, vr a2, vr (el0 Z a0 131), vi 0, vi 1, vr a3, un, vi 16, vi 4, un, un, un]) d57_38 rfl ?_
  refine G36 X1 K (v := .null) e1 A_1 rfl (by decide) rfl d57_40 ?_
  refine G9 X1 K d57_41 rfl ?_
  refine G26 X1 K (L' := #[vr a1, vi 100, vr a2, vr (el0 Z a0 131), vi 0, vi 1, vr a3, vn, vi 16, vi 4, un, un, un]) d57_42 rfl rfl ?_
  refine G52 X1 K d57_44 ?_
  refine G7 X1 K d57_47 rfl rfl ?_
  refine G4 X1 K d57_49 rfl ?_
  refine G0 X1 K d57_51 rfl rfl ?_
  refine G1 X1 K d57_52 rfl ?_
  refine G0 X1 K d57_53 rfl rfl ?_
  refine G0 X1 K d57_54 rfl rfl ?_
  refine G28 X1 K d57_55 ?_
  refine G8 X1 K (W := 2) (w444 H) (w445 H) (nf_self K (w447 H)) (w447 H) (w446 H) (w212 H) (w448 H) (by decide) (rm59_123 H a1 a2 Ol0) e1 B_1.1 rfl rfl rfl (lenOf pd_33 rfl) rfl d57_56 (by decide) ?_
  rintro T2 v2 L2 X2 ⟨bx1, rfl, N2q, Kc2, lz2_0, g1⟩
  have szbx1 := Nat.le_trans (Keep.refl h0 [a3, a1]).1 lz2_0
  have gebx1 := Nat.le_trans Ol0.2.1 lz2_0
  have so1 := Sd.one bx1
  obtain ⟨N2, Ol2, Kp2⟩ := ivK (Fr.nil _) Ol0 (Keep.refl h0 [a3, a1]) N2q Kc2 all0 all0
  show Go _ _ _ _ _ (mkF _ _ _ [.ref bx1, .int 4, .ref a3])
  have f1 := (A_1.keep Kc2 nin0)
  refine G32 X2 K (vs' := [.null, .ref a4, .ref a5, .ref a6, .ref bx1, .null, .null, .null, .null, .null, .null, .null, .null, .null, .null, .null]) rfl f1 (Or.inr ⟨_, rfl, O_1, (Ins.self g1.1)⟩) (by decide) (Nat.le_of_ble_eq_true rfl) rfl d57_59 ?_
  intro T3 h3 X3 e3 W3 F3
  obtain ⟨N3, Ol3, Kp3⟩ := ivW N2 Ol2 Kp2 X3 W3 ge_1 (ow 0 rfl)
  refine G6 259 X3 K d57_60 (by decide) (by decide) ?_
  refine G0 X3 K d57_259 rfl rfl ?_
  refine G9 X3 K d57_260 rfl ?_
  have f2 := ((B_1.keep Kc2 nin0).other W3 ne_1)
  refine G2 X3 K (w464 H) Via.refl e3 f2.2.2.2.2.1 d57_261 ?_
  intro T4 X4 e4
  refine G3 X4 K (v := 1) d57_264 (by decide) ?_
  refine G16 X4 K d57_265 (z := 4) (by decide) ?_
  refine G5 X4 K (w464 H) Via.refl e4 f2.2.2.2.2.1 f2.1 (Or.inl (w465 H)) (w211 H) (ty := .int) (by decide) rfl rfl d57_266 ?_
  intro T5 h5 X5 e5 W5 F5
  obtain ⟨N5, Ol5, Kp5⟩ := ivW N3 Ol3 Kp3 X5 W5 ge_2 (ow 1 rfl)
  have O5 := Ω5.s3 H f2 W5
  refine G0 X5 K d57_269 rfl rfl ?_
  refine G9 X5 K d57_270 rfl ?_
  refine G2 X5 K (w466 H) Via.refl e5 O5.2.2.2.2.2 d57_271 ?_
  intro T6 X6 e6
  refine G3 X6 K (v := 1) d57_274 (by decide) ?_
  refine G16 X6 K d57_275 (z := 4) (by decide) ?_
  refine G46 X6 K d57_276 rfl rfl ?_
  refine G5 X6 K (w466 H) Via.refl e6 O5.2.2.2.2.2 O5.1 (Or.inl (w467 H)) (w211 H) (ty := .int) (by decide) rfl rfl d57_277 ?_
  intro T7 h7 X7 e7 W7 F7
  obtain ⟨N7, Ol7, Kp7⟩ := ivW N5 Ol5 Kp5 X7 W7 ge_2 (ow 1 rfl)
  have O7 := Ω5.s4 H O5 W7
  refine G0 X7 K d57_280 rfl rfl ?_
  refine G2 X7 K (w440 H) Via.refl e7 O7.2.2.2.1 d57_281 ?_
  intro T8 X8 e8
  refine G19 292 X8 K d57_284 (by decide) (by decide) (by decide) ?_
  refine G0 X8 K d57_292 rfl rfl ?_
  refine G4 X8 K d57_293 rfl ?_
  refine G8 X8 K (W := 0) (w468 H) (w469 H) (nf_self K (w471 H)) (w471 H) (w470 H) (w212 H) (w472 H) (by decide) (rm61_89 H a1 Ol7) e8 O7.1 rfl rfl rfl (lenOf pd_34 rfl) rfl d57_295 (by decide) ?_
  rintro T9 v9 L9 X9 ⟨rfl, N9q, e9⟩
  have N9 := Fr.app N7 N9q
  show Go _ _ _ _ _ (mkF _ _ _ [])
  refine G28 X9 K d57_298 ?_
  refine G13 X9 K rfl rfl rfl d57_299 (by decide) (by decide) ?_
  have Kp : Keep h0 T9.heap [a3, a1] := by rw [e9]; exact Kp7
  have f3 := ((F3.other W5 ne_2).other W7 ne_2)
  have ne1 : a3 ≠ bx1 := (Nat.ne_of_lt (Nat.lt_of_lt_of_le A_1.lt szbx1))
  have ne2 : a1 ≠ bx1 := (Nat.ne_of_lt (Nat.lt_of_lt_of_le B_1.lt szbx1))
  have f4 := (((g1.other W3 (Ne.symm ne1)).other W5 (Ne.symm ne2)).other W7 (Ne.symm ne2))
  exact ⟨bx1, rfl, N9, Kp, szbx1, (by rw [e9]; exact f3), (by rw [e9]; exact O7), (by rw [e9]; exact f4)⟩
theorem rm52_125 (H : Hyp Z a0) (a1 a2 a3 : Addr) (k1 : ClassId) (a4 a5 a6 a7 : Addr) (k2 : ClassId) (Ol0 : Old Z (ζ Z) h0) (B_1 : Ω1 Z h0 a2 (.ref a3) (.int 0) (.int 0) (.int 0)) (A_1 : Arv Z h0 a3 k1 .byte 1 [.int 100] (.int 0)) (ge_1 : (ζ Z) ≤ a2) (B_2 : Ω5 Z h0 a1 (.float 1061158912) (.ref a4) (.int 12) (.int 3) (.int 3)) (A_2 : Arv Z h0 a4 k2 (.object Q6) 16 [.null, .ref a5, .ref a6, .ref a7, .null, .null, .null, .null, .null, .null, .null, .null, .null, .null, .null, .null] .null) (ne_1 : a1 ≠ a2) (ne_2 : a4 ≠ a2) (O_1 : Ovr Z k2 Q6) (ge_2 : (ζ Z) ≤ a4) (ne_3 : a1 ≠ a4) (ge_3 : (ζ Z) ≤ a1) (ne_4 : a4 ≠ a1) (ne_5 : a2 ≠ a1) (ne_6 : a2 ≠ a4) :
    Mt l Z M64 C32 3 (some (.object Q3)) [] ⟨4, 1, 4, 71⟩ #[.ref a1, .ref a2, (.ref (el0 Z a0 131))] h0 (fun v h L => (∃ (bx1 : Addr), v = some .null ∧ Fr (ζ Z) L ∧ Keep h0 h [a2, a4, a1] ∧ h0.size ≤ bx1 ∧ Ω1 Z h a2 (.ref a3) (.int 0) (.int 100) (.int 0) ∧ Arv Z h a4 k2 (.object Q6) 16 [.null, .ref a5, .ref a6, .ref a7, .ref bx1, .null, .null, .null, .null, .null, .null, .null, .null, .null, .null, .null] .null ∧ Ω5 Z h a1 (.float 1061158912) (.ref a4) (.int 12) (.int 4) (.int 4) ∧ Ω9 Z h bx1 (.int 100) (.ref a2) (.ref (el0 Z a0 131)) .null)) := by
  refine g_be (pf pn16) (ef_16 a1 a2 (el0 Z a0 131)) fun T0 K X0 e0 => ?_
  refine G0 X0 K d52_0 rfl rfl ?_
  refine G0 X0 K d52_1 rfl rfl ?_
  refine G14 X0 K (W := 1) (w407 H) (w408 H) (w212 H) (w409 H) (by decide) (rm53_121 H a2 a3 k1 Ol0 B_1 A_1 ge_1) e0 rfl rfl rfl (lenOf pd_30 rfl) rfl d52_2 (by decide) ?_
  rintro T1 v1 L1 X1 ⟨rfl, N1q, Kc1, g1⟩
  obtain ⟨N1, Ol1, Kp1⟩ := ivK (Fr.nil _) Ol0 (Keep.refl h0 [a2, a4, a1]) N1q Kc1 (allS ge_1 all0) (kaS (ow 0 rfl) all0)
  show Go _ _ _ _ _ (mkF _ _ _ [.int 100, .ref a1])
  refine G0 X1 K d52_5 rfl rfl ?_
  refine G0 X1 K d52_6 rfl rfl ?_
  refine G3 X1 K (v := 0) d52_7 (by decide) ?_
  refine G3 X1 K (v := 1) d52_8 (by decide) ?_
  have f1 := (B_2.keep Kc1 (ninS ne_1 nin0))
  have f2 := (A_2.keep Kc1 (ninS ne_2 nin0))
  refine G8 X1 K (W := 0) (w428 H) (w429 H) (nf_self K (w431 H)) (w431 H) (w430 H) (w212 H) (w432 H) (by decide) (rm57_124 H a1 a2 a4 a5 a6 a7 k2 Ol1 f1 f2 O_1 ge_2 ne_3 ge_3 ne_4) rfl f1.1 rfl rfl rfl (lenOf pd_35 rfl) rfl d52_9 (by decide) ?_
  rintro T2 v2 L2 X2 ⟨bx1, rfl, N2q, Kc2, lz2_0, g2, g3, g4⟩
  have szbx1 := Nat.le_trans Kp1.1 lz2_0
  have gebx1 := Nat.le_trans Ol1.2.1 lz2_0
  have so1 := Sd.one bx1
  obtain ⟨N2, Ol2, Kp2⟩ := ivK N1 Ol1 Kp1 N2q Kc2 (allS ge_2 (allS ge_3 all0)) (kaS (ow 1 rfl) (kaS (ow 2 rfl) all0))
  show Go _ _ _ _ _ (mkF _ _ _ [.null])
  refine G13 X2 K rfl rfl rfl d52_12 (by decide) (by decide) ?_
  have f3 := (g1.keep Kc2 (ninS ne_6 (ninS ne_5 nin0)))
  exact ⟨bx1, rfl, N2, Kp2, szbx1, f3, g2, g3, g4⟩
theorem rm51_126 (H : Hyp Z a0) (Ol0 : Old Z (ζ Z) h0) :
    Mt l Z M62 C23 1 (some (.object Q24)) [] ⟨0, 0, 0, 0⟩ #[.int 4] h0 (fun v h L => (v = some (.ref (el0 Z a0 132)) ∧ Fr (ζ Z) L ∧ h = h0)) := by
  refine g_be (pf pn5) ef_43 fun T0 K X0 e0 => ?_
  refine G1 X0 K d51_0 rfl ?_
  refine G29 X0 K (v := (-128)) d51_1 (by decide) ?_
  refine G10 X0 K d51_3 (by decide) ?_
  refine G1 X0 K d51_6 rfl ?_
  refine G33 X0 K (w395 H) e0 ((si_high H).ext Ol0.2) d51_7 ?_
  intro T1 X1 e1
  refine G10 X1 K d51_10 (by decide) ?_
  refine G33 X1 K (w397 H) e1 ((s2 H).ext Ol0.2) d51_13 ?_
  intro T2 X2 e2
  refine G1 X2 K d51_16 rfl ?_
  refine G34 X2 K (v := 128) d51_17 (by decide) ?_
  refine G16 X2 K d51_20 (z := 132) (by decide) ?_
  refine G55 X2 K e2 (let ⟨cl, q1, q2, q3⟩ := tb2 H 132 (by decide); ⟨cl, q1.ext Ol0.2, q2, q3⟩) rfl d51_21 ?_
  refine G13 X2 K rfl rfl rfl d51_22 (by decide) (by decide) ?_
  exact ⟨rfl, (Fr.nil _), e2⟩
theorem rm56_127 (H : Hyp Z a0) (a1 : Addr) (k1 : ClassId) (Ol0 : Old Z (ζ Z) h0) (A_1 : Arv Z h0 a1 k1 .byte 1 [.int 101] (.int 0)) :
    Mt l Z M69 C28 1 (some .int) [] ⟨0, 0, 0, 0⟩ #[.ref a1] h0 (fun v h L => (v = some (.int 101) ∧ Fr (ζ Z) L ∧ h = h0)) := by
  refine g_be (pf pn8) (ef_0 a1) fun T0 K X0 e0 => ?_
  refine G0 X0 K d56_0 rfl rfl ?_
  refine G21 X0 K e0 A_1 d56_1 ?_
  refine G56 32 X0 K (i := 1) (a := 1) (o := 30) d56_2 (by decide) (by decide) (by decide) (by decide) ?_
  refine G0 X0 K d56_32 rfl rfl ?_
  refine G3 X0 K (v := 0) d56_33 (by decide) ?_
  refine G42 X0 K (v := (.int 101)) e0 A_1 (by decide) rfl d56_34 ?_
  refine G34 X0 K (v := 255) d56_35 (by decide) ?_
  refine G30 X0 K d56_38 (z := 101) (by decide) ?_
  refine G6 51 X0 K d56_39 (by decide) (by decide) ?_
  refine G18 X0 K d56_51 (by decide) (by decide) ?_
  exact ⟨rfl, (Fr.nil _), e0⟩
theorem rm54_128 (H : Hyp Z a0) (a1 a2 : Addr) (k1 : ClassId) (Ol0 : Old Z (ζ Z) h0) (B_1 : Ω1 Z h0 a1 (.ref a2) (.int 0) (.int 0) (.int 0)) (A_1 : Arv Z h0 a2 k1 .byte 1 [.int 101] (.int 0)) (ge_1 : (ζ Z) ≤ a1) :
    Mt l Z M67 C8 2 (some .int) [] ⟨1, 0, 0, 12⟩ #[.ref a1] h0 (fun v h L => (v = some (.int 101) ∧ Fr (ζ Z) L ∧ Keep h0 h [a1] ∧ Ω1 Z h a1 (.ref a2) (.int 0) (.int 101) (.int 0))) := by
  refine g_be (pf pn7) (ef_15 a1) fun T0 K X0 e0 => ?_
  refine G0 X0 K d54_0 rfl rfl ?_
  refine G2 X0 K (w416 H) Via.refl e0 B_1.2.2.2.1 d54_1 ?_
  intro T1 X1 e1
  refine G24 X1 K (L' := #[vr a1, vi 0]) d54_4 rfl ?_
  refine G1 X1 K d54_5 rfl ?_
  refine G11 X1 K d54_6 (by decide) ?_
  refine G0 X1 K d54_9 rfl rfl ?_
  refine G2 X1 K (w418 H) Via.refl e1 B_1.2.2.2.2 d54_10 ?_
  intro T2 X2 e2
  refine G11 X2 K d54_13 (by decide) ?_
  refine G0 X2 K d54_16 rfl rfl ?_
  refine G8 X2 K (W := 0) (w420 H) (w421 H) (nf_self K (w423 H)) (w423 H) (w422 H) (w28 H) (w424 H) (by decide) (rm55_82 H a1 a2 Ol0 B_1) e2 B_1.1 rfl rfl rfl (lenOf pd_10 rfl) rfl d54_17 (by decide) ?_
  rintro T3 v3 L3 X3 ⟨rfl, N3q, e3⟩
  have N3 := Fr.app (Fr.nil _) N3q
  show Go _ _ _ _ _ (mkF _ _ _ [.int 1])
  refine G11 X3 K d54_20 (by decide) ?_
  refine G0 X3 K d54_23 rfl rfl ?_
  refine G2 X3 K (w56 H) Via.refl e3 B_1.2.1 d54_24 ?_
  intro T4 X4 e4
  refine G14 X4 K (W := 0) (w425 H) (w426 H) (w45 H) (w427 H) (by decide) (rm56_127 H a2 k1 Ol0 A_1) e4 rfl rfl rfl (lenOf pd_29 rfl) rfl d54_27 (by decide) ?_
  rintro T5 v5 L5 X5 ⟨rfl, N5q, e5⟩
  have N5 := Fr.app N3 N5q
  show Go _ _ _ _ _ (mkF _ _ _ [.int 101])
  refine G6 40 X5 K d54_30 (by decide) (by decide) ?_
  refine G24 X5 K (L' := #[vr a1, vi 101]) d54_40 rfl ?_
  refine G1 X5 K d54_41 rfl ?_
  refine G15 53 X5 K d54_42 (by decide) (by decide) (by decide) ?_
  refine G0 X5 K d54_53 rfl rfl ?_
  refine G1 X5 K d54_54 rfl ?_
  refine G5 X5 K (w416 H) Via.refl e5 B_1.2.2.2.1 B_1.1 (Or.inl (w417 H)) (w29 H) (ty := .int) (by decide) rfl rfl d54_55 ?_
  intro T6 h6 X6 e6 W6 F6
  obtain ⟨N6, Ol6, Kp6⟩ := ivW N5 Ol0 (Keep.refl h0 [a1]) X6 W6 ge_1 (ow 0 rfl)
  have O6 := Ω1.s2 H B_1 W6
  refine G1 X6 K d54_58 rfl ?_
  refine G18 X6 K d54_59 (by decide) (by decide) ?_
  have Kp : Keep h0 T6.heap [a1] := by rw [e6]; exact Kp6
  exact ⟨rfl, N6, Kp, (by rw [e6]; exact O6)⟩
theorem rm53_129 (H : Hyp Z a0) (a1 a2 : Addr) (k1 : ClassId) (Ol0 : Old Z (ζ Z) h0) (B_1 : Ω1 Z h0 a1 (.ref a2) (.int 0) (.int 0) (.int 0)) (A_1 : Arv Z h0 a2 k1 .byte 1 [.int 101] (.int 0)) (ge_1 : (ζ Z) ≤ a1) :
    Mt l Z M65 C27 2 (some .int) [] ⟨2, 0, 0, 25⟩ #[.ref a1] h0 (fun v h L => (v = some (.int 101) ∧ Fr (ζ Z) L ∧ Keep h0 h [a1] ∧ Ω1 Z h a1 (.ref a2) (.int 0) (.int 101) (.int 0))) := by
  refine g_be (pf pn16) (ef_15 a1) fun T0 K X0 e0 => ?_
  refine G0 X0 K d53_0 rfl rfl ?_
  refine G51 8 X0 K d53_1 (by decide) (by decide) ?_
  refine G0 X0 K d53_8 rfl rfl ?_
  refine G8 X0 K (W := 0) (w410 H) (w411 H) (nf_top (args := #[]) (mvT K.z (w113 H))) (w413 H) (w414 H) (w28 H) (w415 H) (by decide) (rm54_128 H a1 a2 k1 Ol0 B_1 A_1 ge_1) e0 B_1.1 rfl rfl rfl (lenOf pd_23 rfl) rfl d53_9 (by decide) ?_
  rintro T1 v1 L1 X1 ⟨rfl, N1q, Kc1, g1⟩
  obtain ⟨N1, Ol1, Kp1⟩ := ivK (Fr.nil _) Ol0 (Keep.refl h0 [a1]) N1q Kc1 (allS ge_1 all0) (kaS (ow 0 rfl) all0)
  show Go _ _ _ _ _ (mkF _ _ _ [.int 101])
  refine G9 X1 K d53_12 rfl ?_
  refine G24 X1 K (L' := #[vr a1, vi 101]) d53_13 rfl ?_
  refine G1 X1 K d53_14 rfl ?_
  refine G29 X1 K (v := 16) d53_15 (by decide) ?_
  refine G57 X1 K d53_17 (z := 0) (by decide) ?_
  refine G58 X1 K d53_18 (z := 101) (by decide) ?_
  refine G18 X1 K d53_19 (by decide) (by decide) ?_
  exact ⟨rfl, N1, Kp1, g1⟩
theorem rm60_130 (H : Hyp Z a0) (a1 a2 : Addr) (Ol0 : Old Z (ζ Z) h0) (B_1 : Ω9 Z h0 a1 (.int 0) .null .null .null) (ge_1 : (ζ Z) ≤ a1) :
    Mt l Z M73 C18 5 none [] ⟨1, 0, 0, 12⟩ #[.ref a1, .int 101, .ref a2, (.ref (el0 Z a0 132)), .null] h0 (fun v h L => (v = none ∧ Fr (ζ Z) L ∧ Keep h0 h [a1] ∧ Ω9 Z h a1 (.int 101) (.ref a2) (.ref (el0 Z a0 132)) .null)) := by
  refine g_be (pf pn17) (ef_44 a1 a2 (el0 Z a0 132)) fun T0 K X0 e0 => ?_
  refine G0 X0 K d60_0 rfl rfl ?_
  refine G40 X0 K (W := 0) (w455 H) (w20 H) (w21 H) e0 rfl d60_1 (by decide) (Nat.le_of_eq rfl) (by decide) ?_
  intro T1 X1 e1
  refine G0 X1 K d60_4 rfl rfl ?_
  refine G1 X1 K d60_5 rfl ?_
  refine G5 X1 K (w456 H) Via.refl e1 B_1.2.1 B_1.1 (Or.inr ⟨(w457 H), rfl, rfl⟩) (w449 H) (ty := .int) (by decide) rfl rfl d60_6 ?_
  intro T2 h2 X2 e2 W2 F2
  obtain ⟨N2, Ol2, Kp2⟩ := ivW (Fr.nil _) Ol0 (Keep.refl h0 [a1]) X2 W2 ge_1 (ow 0 rfl)
  have O2 := Ω9.s0 H B_1 W2
  refine G0 X2 K d60_9 rfl rfl ?_
  refine G0 X2 K d60_10 rfl rfl ?_
  refine G5 X2 K (w458 H) Via.refl e2 O2.2.2.1 O2.1 (Or.inr ⟨(w459 H), rfl, rfl⟩) (w449 H) (ty := (.object Q3)) (by decide) rfl rfl d60_11 ?_
  intro T3 h3 X3 e3 W3 F3
  obtain ⟨N3, Ol3, Kp3⟩ := ivW N2 Ol2 Kp2 X3 W3 ge_1 (ow 0 rfl)
  have O3 := Ω9.s1 H O2 W3
  refine G0 X3 K d60_14 rfl rfl ?_
  refine G0 X3 K d60_15 rfl rfl ?_
  refine G5 X3 K (w460 H) Via.refl e3 O3.2.2.2.1 O3.1 (Or.inl (w461 H)) (w449 H) (ty := (.object Q3)) (by decide) rfl rfl d60_16 ?_
  intro T4 h4 X4 e4 W4 F4
  obtain ⟨N4, Ol4, Kp4⟩ := ivW N3 Ol3 Kp3 X4 W4 ge_1 (ow 0 rfl)
  have O4 := Ω9.s2 H O3 W4
  refine G0 X4 K d60_19 rfl rfl ?_
  refine G7 X4 K d60_20 rfl rfl ?_
  refine G5 X4 K (w462 H) Via.refl e4 O4.2.2.2.2 O4.1 (Or.inl (w463 H)) (w449 H) (ty := (.object Q6)) (by decide) rfl rfl d60_22 ?_
  intro T5 h5 X5 e5 W5 F5
  obtain ⟨N5, Ol5, Kp5⟩ := ivW N4 Ol4 Kp4 X5 W5 ge_1 (ow 0 rfl)
  have O5 := Ω9.s3 H O4 W5
  refine G17 X5 K d60_25 (by decide) (by decide) ?_
  have Kp : Keep h0 T5.heap [a1] := by rw [e5]; exact Kp5
  exact ⟨rfl, N5, Kp, (by rw [e5]; exact O5)⟩
theorem rm59_131 (H : Hyp Z a0) (a1 a2 : Addr) (Ol0 : Old Z (ζ Z) h0) :
    Mt l Z M72 C36 5 (some (.object Q6)) [] ⟨2, 1, 4, 29⟩ #[.ref a1, .int 101, .ref a2, (.ref (el0 Z a0 132)), .null] h0 (fun v h L => (∃ (b1 : Addr), v = some (.ref b1) ∧ Fr (ζ Z) L ∧ Keep h0 h [] ∧ h0.size ≤ b1 ∧ Ω9 Z h b1 (.int 101) (.ref a2) (.ref (el0 Z a0 132)) .null)) := by
  refine g_be (pf pn16) (ef_44 a1 a2 (el0 Z a0 132)) fun T0 K X0 e0 => ?_
  refine G27 X0 K (w442 H) (w449 H) (w450 H) e0 d59_0 (by decide) (by decide) ?_
  intro T1 h1 b1 X1 e1 E1 z1 A1 D1
  obtain ⟨sz1, ge1, Ol1, Kp1⟩ := ivE Ol0 (Keep.refl h0 []) E1 z1
  have so1 := Sd.one b1
  have O1 := Ω9.new H A1 D1
  refine G9 X1 K d59_3 rfl ?_
  refine G1 X1 K d59_4 rfl ?_
  refine G0 X1 K d59_5 rfl rfl ?_
  refine G0 X1 K d59_6 rfl rfl ?_
  refine G7 X1 K d59_7 rfl rfl ?_
  refine G23 X1 K (W := 1) rfl (w451 H) (w452 H) (w450 H) (w454 H) (by decide) (rm60_130 H b1 a2 Ol1 O1 ge1) e1 rfl rfl rfl (lenOf pd_32 rfl) rfl d59_9 (by decide) ?_
  rintro T2 v2 L2 X2 ⟨rfl, N2q, Kc2, g1⟩
  obtain ⟨N2, Ol2, Kp2⟩ := ivK (Fr.nil _) Ol1 Kp1 N2q Kc2 (allS ge1 all0) (kaS (Or.inr sz1) all0)
  show Go _ _ _ _ _ (mkF _ _ _ [.ref b1])
  refine G13 X2 K rfl rfl rfl d59_12 (by decide) (by decide) ?_
  exact ⟨b1, rfl, N2, Kp2, sz1, g1⟩
theorem rm57_132 (H : Hyp Z a0) (a1 a2 a3 a4 a5 a6 a7 : Addr) (k1 : ClassId) (Ol0 : Old Z (ζ Z) h0) (B_1 : Ω5 Z h0 a1 (.float 1061158912) (.ref a3) (.int 12) (.int 4) (.int 4)) (A_1 : Arv Z h0 a3 k1 (.object Q6) 16 [.null, .ref a4, .ref a5, .ref a6, .ref a7, .null, .null, .null, .null, .null, .null, .null, .null, .null, .null, .null] .null) (O_1 : Ovr Z k1 Q6) (ge_1 : (ζ Z) ≤ a3) (ne_1 : a1 ≠ a3) (ge_2 : (ζ Z) ≤ a1) (ne_2 : a3 ≠ a1) :
    Mt l Z M70 C3 13 (some (.object Q3)) [] ⟨3, 1, 4, 47⟩ #[.ref a1, .int 101, .ref a2, (.ref (el0 Z a0 132)), .int 0, .int 1] h0 (fun v h L => (∃ (bx1 : Addr), v = some .null ∧ Fr (ζ Z) L ∧ Keep h0 h [a3, a1] ∧ h0.size ≤ bx1 ∧ Arv Z h a3 k1 (.object Q6) 16 [.null, .ref a4, .ref a5, .ref a6, .ref a7, .ref bx1, .null, .null, .null, .null, .null, .null, .null, .null, .null, .null] .null ∧ Ω5 Z h a1 (.float 1061158912) (.ref a3) (.int 12) (.int 5) (.int 5) ∧ Ω9 Z h bx1 (.int 101) (.ref a2) (.ref (el0 Z a0 132)) .null)) := by
  refine g_be (pf pn16) (ef_45 a1 a2 (el0 Z a0 132)) fun T0 K X0 e0 => ?_
  refine G0 X0 K d57_0 rfl rfl ?_
  refine G2 X0 K (w433 H) Via.refl e0 B_1.2.2.1 d57_1 ?_
  intro T1 X1 e1
  refine G9 X1 K d57_4 rfl ?_
  refine G26 X1 K (L' := #[vr a1, vi 101, vr a2, vr (el0 Z a0 132), vi 0, vi 1, vr a3, un, un, un, un, un, un]) d57_5 rfl rfl ?_
  refine G62 X1 K d57_7 ?_
  refine G7 X1 K d57_10 rfl rfl ?_
  refine G21 X1 K e1 A_1 d57_12 ?_
  refine G9 X1 K d57_13 rfl ?_
  refine G12 X1 K (L' := #[vr a1, vi 101, vr a2, vr (el0 Z a0 132), vi 0, vi 1, vr a3, un, vi 16, un, un, un, un]) d57_14 rfl ?_
  refine G15 29 X1 K d57_16 (by decide) (by decide) (by decide) ?_
  refine G7 X1 K d57_29 rfl rfl ?_
  refine G4 X1 K d57_31 rfl ?_
  refine G3 X1 K (v := 1) d57_33 (by decide) ?_
  refine G45 X1 K d57_34 (z := 15) (by decide) ?_
  refine G1 X1 K d57_35 rfl ?_
  refine G30 X1 K d57_36 (z := 5) (by decide) ?_
  refine G9 X1 K d57_37 rfl ?_
  refine G12 X1 K (L' := #[vr a1, vi 101, vr a2, vr (el0 Z a0 132), vi 0, vi 1, vr a3, un, vi 16, vi 5, un, un, un]) d57_38 rfl ?_
  refine G36 X1 K (v := .null) e1 A_1 rfl (by decide) rfl d57_40 ?_
  refine G9 X1 K d57_41 rfl ?_
  refine G26 X1 K (L' := #[vr a1, vi 101, vr a2, vr (el0 Z a0 132), vi 0, vi 1, vr a3, vn, vi 16, vi 5, un, un, un]) d57_42 rfl rfl ?_
  refine G52 X1 K d57_44 ?_
  refine G7 X1 K d57_47 rfl rfl ?_
  refine G4 X1 K d57_49 rfl ?_
  refine G0 X1 K d57_51 rfl rfl ?_
  refine G1 X1 K d57_52 rfl ?_
  refine G0 X1 K d57_53 rfl rfl ?_
  refine G0 X1 K d57_54 rfl rfl ?_
  refine G28 X1 K d57_55 ?_
  refine G8 X1 K (W := 2) (w444 H) (w445 H) (nf_self K (w447 H)) (w447 H) (w446 H) (w212 H) (w448 H) (by decide) (rm59_131 H a1 a2 Ol0) e1 B_1.1 rfl rfl rfl (lenOf pd_33 rfl) rfl d57_56 (by decide) ?_
  rintro T2 v2 L2 X2 ⟨bx1, rfl, N2q, Kc2, lz2_0, g1⟩
  have szbx1 := Nat.le_trans (Keep.refl h0 [a3, a1]).1 lz2_0
  have gebx1 := Nat.le_trans Ol0.2.1 lz2_0
  have so1 := Sd.one bx1
  obtain ⟨N2, Ol2, Kp2⟩ := ivK (Fr.nil _) Ol0 (Keep.refl h0 [a3, a1]) N2q Kc2 all0 all0
  show Go _ _ _ _ _ (mkF _ _ _ [.ref bx1, .int 5, .ref a3])
  have f1 := (A_1.keep Kc2 nin0)
  refine G32 X2 K (vs' := [.null, .ref a4, .ref a5, .ref a6, .ref a7, .ref bx1, .null, .null, .null, .null, .null, .null, .null, .null, .null, .null]) rfl f1 (Or.inr ⟨_, rfl, O_1, (Ins.self g1.1)⟩) (by decide) (Nat.le_of_ble_eq_true rfl) rfl d57_59 ?_
  intro T3 h3 X3 e3 W3 F3
  obtain ⟨N3, Ol3, Kp3⟩ := ivW N2 Ol2 Kp2 X3 W3 ge_1 (ow 0 rfl)
  refine G6 259 X3 K d57_60 (by decide) (by decide) ?_
  refine G0 X3 K d57_259 rfl rfl ?_
  refine G9 X3 K d57_260 rfl ?_
  have f2 := ((B_1.keep Kc2 nin0).other W3 ne_1)
  refine G2 X3 K (w464 H) Via.refl e3 f2.2.2.2.2.1 d57_261 ?_
  intro T4 X4 e4
  refine G3 X4 K (v := 1) d57_264 (by decide) ?_
  refine G16 X4 K d57_265 (z := 5) (by decide) ?_
  refine G5 X4 K (w464 H) Via.refl e4 f2.2.2.2.2.1 f2.1 (Or.inl (w465 H)) (w211 H) (ty := .int) (by decide) rfl rfl d57_266 ?_
  intro T5 h5 X5 e5 W5 F5
  obtain ⟨N5, Ol5, Kp5⟩ := ivW N3 Ol3 Kp3 X5 W5 ge_2 (ow 1 rfl)
  have O5 := Ω5.s3 H f2 W5
  refine G0 X5 K d57_269 rfl rfl ?_
  refine G9 X5 K d57_270 rfl ?_
  refine G2 X5 K (w466 H) Via.refl e5 O5.2.2.2.2.2 d57_271 ?_
  intro T6 X6 e6
  refine G3 X6 K (v := 1) d57_274 (by decide) ?_
  refine G16 X6 K d57_275 (z := 5) (by decide) ?_
  refine G46 X6 K d57_276 rfl rfl ?_
  refine G5 X6 K (w466 H) Via.refl e6 O5.2.2.2.2.2 O5.1 (Or.inl (w467 H)) (w211 H) (ty := .int) (by decide) rfl rfl d57_277 ?_
  intro T7 h7 X7 e7 W7 F7
  obtain ⟨N7, Ol7, Kp7⟩ := ivW N5 Ol5 Kp5 X7 W7 ge_2 (ow 1 rfl)
  have O7 := Ω5.s4 H O5 W7
  refine G0 X7 K d57_280 rfl rfl ?_
  refine G2 X7 K (w440 H) Via.refl e7 O7.2.2.2.1 d57_281 ?_
  intro T8 X8 e8
  refine G19 292 X8 K d57_284 (by decide) (by decide) (by decide) ?_
  refine G0 X8 K d57_292 rfl rfl ?_
  refine G4 X8 K d57_293 rfl ?_
  refine G8 X8 K (W := 0) (w468 H) (w469 H) (nf_self K (w471 H)) (w471 H) (w470 H) (w212 H) (w472 H) (by decide) (rm61_89 H a1 Ol7) e8 O7.1 rfl rfl rfl (lenOf pd_34 rfl) rfl d57_295 (by decide) ?_
  rintro T9 v9 L9 X9 ⟨rfl, N9q, e9⟩
  have N9 := Fr.app N7 N9q
  show Go _ _ _ _ _ (mkF _ _ _ [])
  refine G28 X9 K d57_298 ?_
  refine G13 X9 K rfl rfl rfl d57_299 (by decide) (by decide) ?_
  have Kp : Keep h0 T9.heap [a3, a1] := by rw [e9]; exact Kp7
  have f3 := ((F3.other W5 ne_2).other W7 ne_2)
  have ne1 : a3 ≠ bx1 := (Nat.ne_of_lt (Nat.lt_of_lt_of_le A_1.lt szbx1))
  have ne2 : a1 ≠ bx1 := (Nat.ne_of_lt (Nat.lt_of_lt_of_le B_1.lt szbx1))
  have f4 := (((g1.other W3 (Ne.symm ne1)).other W5 (Ne.symm ne2)).other W7 (Ne.symm ne2))
  exact ⟨bx1, rfl, N9, Kp, szbx1, (by rw [e9]; exact f3), (by rw [e9]; exact O7), (by rw [e9]; exact f4)⟩
theorem rm52_133 (H : Hyp Z a0) (a1 a2 a3 : Addr) (k1 : ClassId) (a4 a5 a6 a7 a8 : Addr) (k2 : ClassId) (Ol0 : Old Z (ζ Z) h0) (B_1 : Ω1 Z h0 a2 (.ref a3) (.int 0) (.int 0) (.int 0)) (A_1 : Arv Z h0 a3 k1 .byte 1 [.int 101] (.int 0)) (ge_1 : (ζ Z) ≤ a2) (B_2 : Ω5 Z h0 a1 (.float 1061158912) (.ref a4) (.int 12) (.int 4) (.int 4)) (A_2 : Arv Z h0 a4 k2 (.object Q6) 16 [.null, .ref a5, .ref a6, .ref a7, .ref a8, .null, .null, .null, .null, .null, .null, .null, .null, .null, .null, .null] .null) (ne_1 : a1 ≠ a2) (ne_2 : a4 ≠ a2) (O_1 : Ovr Z k2 Q6) (ge_2 : (ζ Z) ≤ a4) (ne_3 : a1 ≠ a4) (ge_3 : (ζ Z) ≤ a1) (ne_4 : a4 ≠ a1) (ne_5 : a2 ≠ a1) (ne_6 : a2 ≠ a4) :
    Mt l Z M64 C32 3 (some (.object Q3)) [] ⟨4, 1, 4, 71⟩ #[.ref a1, .ref a2, (.ref (el0 Z a0 132))] h0 (fun v h L => (∃ (bx1 : Addr), v = some .null ∧ Fr (ζ Z) L ∧ Keep h0 h [a2, a4, a1] ∧ h0.size ≤ bx1 ∧ Ω1 Z h a2 (.ref a3) (.int 0) (.int 101) (.int 0) ∧ Arv Z h a4 k2 (.object Q6) 16 [.null, .ref a5, .ref a6, .ref a7, .ref a8, .ref bx1, .null, .null, .null, .null, .null, .null, .null, .null, .null, .null] .null ∧ Ω5 Z h a1 (.float 1061158912) (.ref a4) (.int 12) (.int 5) (.int 5) ∧ Ω9 Z h bx1 (.int 101) (.ref a2) (.ref (el0 Z a0 132)) .null)) := by
  refine g_be (pf pn16) (ef_16 a1 a2 (el0 Z a0 132)) fun T0 K X0 e0 => ?_
  refine G0 X0 K d52_0 rfl rfl ?_
  refine G0 X0 K d52_1 rfl rfl ?_
  refine G14 X0 K (W := 1) (w407 H) (w408 H) (w212 H) (w409 H) (by decide) (rm53_129 H a2 a3 k1 Ol0 B_1 A_1 ge_1) e0 rfl rfl rfl (lenOf pd_30 rfl) rfl d52_2 (by decide) ?_
  rintro T1 v1 L1 X1 ⟨rfl, N1q, Kc1, g1⟩
  obtain ⟨N1, Ol1, Kp1⟩ := ivK (Fr.nil _) Ol0 (Keep.refl h0 [a2, a4, a1]) N1q Kc1 (allS ge_1 all0) (kaS (ow 0 rfl) all0)
  show Go _ _ _ _ _ (mkF _ _ _ [.int 101, .ref a1])
  refine G0 X1 K d52_5 rfl rfl ?_
  refine G0 X1 K d52_6 rfl rfl ?_
  refine G3 X1 K (v := 0) d52_7 (by decide) ?_
  refine G3 X1 K (v := 1) d52_8 (by decide) ?_
  have f1 := (B_2.keep Kc1 (ninS ne_1 nin0))
  have f2 := (A_2.keep Kc1 (ninS ne_2 nin0))
  refine G8 X1 K (W := 0) (w428 H) (w429 H) (nf_self K (w431 H)) (w431 H) (w430 H) (w212 H) (w432 H) (by decide) (rm57_132 H a1 a2 a4 a5 a6 a7 a8 k2 Ol1 f1 f2 O_1 ge_2 ne_3 ge_3 ne_4) rfl f1.1 rfl rfl rfl (lenOf pd_35 rfl) rfl d52_9 (by decide) ?_
  rintro T2 v2 L2 X2 ⟨bx1, rfl, N2q, Kc2, lz2_0, g2, g3, g4⟩
  have szbx1 := Nat.le_trans Kp1.1 lz2_0
  have gebx1 := Nat.le_trans Ol1.2.1 lz2_0
  have so1 := Sd.one bx1
  obtain ⟨N2, Ol2, Kp2⟩ := ivK N1 Ol1 Kp1 N2q Kc2 (allS ge_2 (allS ge_3 all0)) (kaS (ow 1 rfl) (kaS (ow 2 rfl) all0))
  show Go _ _ _ _ _ (mkF _ _ _ [.null])
  refine G13 X2 K rfl rfl rfl d52_12 (by decide) (by decide) ?_
  have f3 := (g1.keep Kc2 (ninS ne_6 (ninS ne_5 nin0)))
  exact ⟨bx1, rfl, N2, Kp2, szbx1, f3, g2, g3, g4⟩
theorem rm51_134 (H : Hyp Z a0) (Ol0 : Old Z (ζ Z) h0) :
    Mt l Z M62 C23 1 (some (.object Q24)) [] ⟨0, 0, 0, 0⟩ #[.int 5] h0 (fun v h L => (v = some (.ref (el0 Z a0 133)) ∧ Fr (ζ Z) L ∧ h = h0)) := by
  refine g_be (pf pn5) ef_46 fun T0 K X0 e0 => ?_
  refine G1 X0 K d51_0 rfl ?_
  refine G29 X0 K (v := (-128)) d51_1 (by decide) ?_
  refine G10 X0 K d51_3 (by decide) ?_
  refine G1 X0 K d51_6 rfl ?_
  refine G33 X0 K (w395 H) e0 ((si_high H).ext Ol0.2) d51_7 ?_
  intro T1 X1 e1
  refine G10 X1 K d51_10 (by decide) ?_
  refine G33 X1 K (w397 H) e1 ((s2 H).ext Ol0.2) d51_13 ?_
  intro T2 X2 e2
  refine G1 X2 K d51_16 rfl ?_
  refine G34 X2 K (v := 128) d51_17 (by decide) ?_
  refine G16 X2 K d51_20 (z := 133) (by decide) ?_
  refine G55 X2 K e2 (let ⟨cl, q1, q2, q3⟩ := tb2 H 133 (by decide); ⟨cl, q1.ext Ol0.2, q2, q3⟩) rfl d51_21 ?_
  refine G13 X2 K rfl rfl rfl d51_22 (by decide) (by decide) ?_
  exact ⟨rfl, (Fr.nil _), e2⟩
theorem rm56_135 (H : Hyp Z a0) (a1 : Addr) (k1 : ClassId) (Ol0 : Old Z (ζ Z) h0) (A_1 : Arv Z h0 a1 k1 .byte 1 [.int 102] (.int 0)) :
    Mt l Z M69 C28 1 (some .int) [] ⟨0, 0, 0, 0⟩ #[.ref a1] h0 (fun v h L => (v = some (.int 102) ∧ Fr (ζ Z) L ∧ h = h0)) := by
  refine g_be (pf pn8) (ef_0 a1) fun T0 K X0 e0 => ?_
  refine G0 X0 K d56_0 rfl rfl ?_
  refine G21 X0 K e0 A_1 d56_1 ?_
  refine G56 32 X0 K (i := 1) (a := 1) (o := 30) d56_2 (by decide) (by decide) (by decide) (by decide) ?_
  refine G0 X0 K d56_32 rfl rfl ?_
  refine G3 X0 K (v := 0) d56_33 (by decide) ?_
  refine G42 X0 K (v := (.int 102)) e0 A_1 (by decide) rfl d56_34 ?_
  refine G34 X0 K (v := 255) d56_35 (by decide) ?_
  refine G30 X0 K d56_38 (z := 102) (by decide) ?_
  refine G6 51 X0 K d56_39 (by decide) (by decide) ?_
  refine G18 X0 K d56_51 (by decide) (by decide) ?_
  exact ⟨rfl, (Fr.nil _), e0⟩
theorem rm54_136 (H : Hyp Z a0) (a1 a2 : Addr) (k1 : ClassId) (Ol0 : Old Z (ζ Z) h0) (B_1 : Ω1 Z h0 a1 (.ref a2) (.int 0) (.int 0) (.int 0)) (A_1 : Arv Z h0 a2 k1 .byte 1 [.int 102] (.int 0)) (ge_1 : (ζ Z) ≤ a1) :
    Mt l Z M67 C8 2 (some .int) [] ⟨1, 0, 0, 12⟩ #[.ref a1] h0 (fun v h L => (v = some (.int 102) ∧ Fr (ζ Z) L ∧ Keep h0 h [a1] ∧ Ω1 Z h a1 (.ref a2) (.int 0) (.int 102) (.int 0))) := by
  refine g_be (pf pn7) (ef_15 a1) fun T0 K X0 e0 => ?_
  refine G0 X0 K d54_0 rfl rfl ?_
  refine G2 X0 K (w416 H) Via.refl e0 B_1.2.2.2.1 d54_1 ?_
  intro T1 X1 e1
  refine G24 X1 K (L' := #[vr a1, vi 0]) d54_4 rfl ?_
  refine G1 X1 K d54_5 rfl ?_
  refine G11 X1 K d54_6 (by decide) ?_
  refine G0 X1 K d54_9 rfl rfl ?_
  refine G2 X1 K (w418 H) Via.refl e1 B_1.2.2.2.2 d54_10 ?_
  intro T2 X2 e2
  refine G11 X2 K d54_13 (by decide) ?_
  refine G0 X2 K d54_16 rfl rfl ?_
  refine G8 X2 K (W := 0) (w420 H) (w421 H) (nf_self K (w423 H)) (w423 H) (w422 H) (w28 H) (w424 H) (by decide) (rm55_82 H a1 a2 Ol0 B_1) e2 B_1.1 rfl rfl rfl (lenOf pd_10 rfl) rfl d54_17 (by decide) ?_
  rintro T3 v3 L3 X3 ⟨rfl, N3q, e3⟩
  have N3 := Fr.app (Fr.nil _) N3q
  show Go _ _ _ _ _ (mkF _ _ _ [.int 1])
  refine G11 X3 K d54_20 (by decide) ?_
  refine G0 X3 K d54_23 rfl rfl ?_
  refine G2 X3 K (w56 H) Via.refl e3 B_1.2.1 d54_24 ?_
  intro T4 X4 e4
  refine G14 X4 K (W := 0) (w425 H) (w426 H) (w45 H) (w427 H) (by decide) (rm56_135 H a2 k1 Ol0 A_1) e4 rfl rfl rfl (lenOf pd_29 rfl) rfl d54_27 (by decide) ?_
  rintro T5 v5 L5 X5 ⟨rfl, N5q, e5⟩
  have N5 := Fr.app N3 N5q
  show Go _ _ _ _ _ (mkF _ _ _ [.int 102])
  refine G6 40 X5 K d54_30 (by decide) (by decide) ?_
  refine G24 X5 K (L' := #[vr a1, vi 102]) d54_40 rfl ?_
  refine G1 X5 K d54_41 rfl ?_
  refine G15 53 X5 K d54_42 (by decide) (by decide) (by decide) ?_
  refine G0 X5 K d54_53 rfl rfl ?_
  refine G1 X5 K d54_54 rfl ?_
  refine G5 X5 K (w416 H) Via.refl e5 B_1.2.2.2.1 B_1.1 (Or.inl (w417 H)) (w29 H) (ty := .int) (by decide) rfl rfl d54_55 ?_
  intro T6 h6 X6 e6 W6 F6
  obtain ⟨N6, Ol6, Kp6⟩ := ivW N5 Ol0 (Keep.refl h0 [a1]) X6 W6 ge_1 (ow 0 rfl)
  have O6 := Ω1.s2 H B_1 W6
  refine G1 X6 K d54_58 rfl ?_
  refine G18 X6 K d54_59 (by decide) (by decide) ?_
  have Kp : Keep h0 T6.heap [a1] := by rw [e6]; exact Kp6
  exact ⟨rfl, N6, Kp, (by rw [e6]; exact O6)⟩
theorem rm53_137 (H : Hyp Z a0) (a1 a2 : Addr) (k1 : ClassId) (Ol0 : Old Z (ζ Z) h0) (B_1 : Ω1 Z h0 a1 (.ref a2) (.int 0) (.int 0) (.int 0)) (A_1 : Arv Z h0 a2 k1 .byte 1 [.int 102] (.int 0)) (ge_1 : (ζ Z) ≤ a1) :
    Mt l Z M65 C27 2 (some .int) [] ⟨2, 0, 0, 25⟩ #[.ref a1] h0 (fun v h L => (v = some (.int 102) ∧ Fr (ζ Z) L ∧ Keep h0 h [a1] ∧ Ω1 Z h a1 (.ref a2) (.int 0) (.int 102) (.int 0))) := by
  refine g_be (pf pn16) (ef_15 a1) fun T0 K X0 e0 => ?_
  refine G0 X0 K d53_0 rfl rfl ?_
  refine G51 8 X0 K d53_1 (by decide) (by decide) ?_
  refine G0 X0 K d53_8 rfl rfl ?_
  refine G8 X0 K (W := 0) (w410 H) (w411 H) (nf_top (args := #[]) (mvT K.z (w113 H))) (w413 H) (w414 H) (w28 H) (w415 H) (by decide) (rm54_136 H a1 a2 k1 Ol0 B_1 A_1 ge_1) e0 B_1.1 rfl rfl rfl (lenOf pd_23 rfl) rfl d53_9 (by decide) ?_
  rintro T1 v1 L1 X1 ⟨rfl, N1q, Kc1, g1⟩
  obtain ⟨N1, Ol1, Kp1⟩ := ivK (Fr.nil _) Ol0 (Keep.refl h0 [a1]) N1q Kc1 (allS ge_1 all0) (kaS (ow 0 rfl) all0)
  show Go _ _ _ _ _ (mkF _ _ _ [.int 102])
  refine G9 X1 K d53_12 rfl ?_
  refine G24 X1 K (L' := #[vr a1, vi 102]) d53_13 rfl ?_
  refine G1 X1 K d53_14 rfl ?_
  refine G29 X1 K (v := 16) d53_15 (by decide) ?_
  refine G57 X1 K d53_17 (z := 0) (by decide) ?_
  refine G58 X1 K d53_18 (z := 102) (by decide) ?_
  refine G18 X1 K d53_19 (by decide) (by decide) ?_
  exact ⟨rfl, N1, Kp1, g1⟩
theorem rm60_138 (H : Hyp Z a0) (a1 a2 : Addr) (Ol0 : Old Z (ζ Z) h0) (B_1 : Ω9 Z h0 a1 (.int 0) .null .null .null) (ge_1 : (ζ Z) ≤ a1) :
    Mt l Z M73 C18 5 none [] ⟨1, 0, 0, 12⟩ #[.ref a1, .int 102, .ref a2, (.ref (el0 Z a0 133)), .null] h0 (fun v h L => (v = none ∧ Fr (ζ Z) L ∧ Keep h0 h [a1] ∧ Ω9 Z h a1 (.int 102) (.ref a2) (.ref (el0 Z a0 133)) .null)) := by
  refine g_be (pf pn17) (ef_47 a1 a2 (el0 Z a0 133)) fun T0 K X0 e0 => ?_
  refine G0 X0 K d60_0 rfl rfl ?_
  refine G40 X0 K (W := 0) (w455 H) (w20 H) (w21 H) e0 rfl d60_1 (by decide) (Nat.le_of_eq rfl) (by decide) ?_
  intro T1 X1 e1
  refine G0 X1 K d60_4 rfl rfl ?_
  refine G1 X1 K d60_5 rfl ?_
  refine G5 X1 K (w456 H) Via.refl e1 B_1.2.1 B_1.1 (Or.inr ⟨(w457 H), rfl, rfl⟩) (w449 H) (ty := .int) (by decide) rfl rfl d60_6 ?_
  intro T2 h2 X2 e2 W2 F2
  obtain ⟨N2, Ol2, Kp2⟩ := ivW (Fr.nil _) Ol0 (Keep.refl h0 [a1]) X2 W2 ge_1 (ow 0 rfl)
  have O2 := Ω9.s0 H B_1 W2
  refine G0 X2 K d60_9 rfl rfl ?_
  refine G0 X2 K d60_10 rfl rfl ?_
  refine G5 X2 K (w458 H) Via.refl e2 O2.2.2.1 O2.1 (Or.inr ⟨(w459 H), rfl, rfl⟩) (w449 H) (ty := (.object Q3)) (by decide) rfl rfl d60_11 ?_
  intro T3 h3 X3 e3 W3 F3
  obtain ⟨N3, Ol3, Kp3⟩ := ivW N2 Ol2 Kp2 X3 W3 ge_1 (ow 0 rfl)
  have O3 := Ω9.s1 H O2 W3
  refine G0 X3 K d60_14 rfl rfl ?_
  refine G0 X3 K d60_15 rfl rfl ?_
  refine G5 X3 K (w460 H) Via.refl e3 O3.2.2.2.1 O3.1 (Or.inl (w461 H)) (w449 H) (ty := (.object Q3)) (by decide) rfl rfl d60_16 ?_
  intro T4 h4 X4 e4 W4 F4
  obtain ⟨N4, Ol4, Kp4⟩ := ivW N3 Ol3 Kp3 X4 W4 ge_1 (ow 0 rfl)
  have O4 := Ω9.s2 H O3 W4
  refine G0 X4 K d60_19 rfl rfl ?_
  refine G7 X4 K d60_20 rfl rfl ?_
  refine G5 X4 K (w462 H) Via.refl e4 O4.2.2.2.2 O4.1 (Or.inl (w463 H)) (w449 H) (ty := (.object Q6)) (by decide) rfl rfl d60_22 ?_
  intro T5 h5 X5 e5 W5 F5
  obtain ⟨N5, Ol5, Kp5⟩ := ivW N4 Ol4 Kp4 X5 W5 ge_1 (ow 0 rfl)
  have O5 := Ω9.s3 H O4 W5
  refine G17 X5 K d60_25 (by decide) (by decide) ?_
  have Kp : Keep h0 T5.heap [a1] := by rw [e5]; exact Kp5
  exact ⟨rfl, N5, Kp, (by rw [e5]; exact O5)⟩
theorem rm59_139 (H : Hyp Z a0) (a1 a2 : Addr) (Ol0 : Old Z (ζ Z) h0) :
    Mt l Z M72 C36 5 (some (.object Q6)) [] ⟨2, 1, 4, 29⟩ #[.ref a1, .int 102, .ref a2, (.ref (el0 Z a0 133)), .null] h0 (fun v h L => (∃ (b1 : Addr), v = some (.ref b1) ∧ Fr (ζ Z) L ∧ Keep h0 h [] ∧ h0.size ≤ b1 ∧ Ω9 Z h b1 (.int 102) (.ref a2) (.ref (el0 Z a0 133)) .null)) := by
  refine g_be (pf pn16) (ef_47 a1 a2 (el0 Z a0 133)) fun T0 K X0 e0 => ?_
  refine G27 X0 K (w442 H) (w449 H) (w450 H) e0 d59_0 (by decide) (by decide) ?_
  intro T1 h1 b1 X1 e1 E1 z1 A1 D1
  obtain ⟨sz1, ge1, Ol1, Kp1⟩ := ivE Ol0 (Keep.refl h0 []) E1 z1
  have so1 := Sd.one b1
  have O1 := Ω9.new H A1 D1
  refine G9 X1 K d59_3 rfl ?_
  refine G1 X1 K d59_4 rfl ?_
  refine G0 X1 K d59_5 rfl rfl ?_
  refine G0 X1 K d59_6 rfl rfl ?_
  refine G7 X1 K d59_7 rfl rfl ?_
  refine G23 X1 K (W := 1) rfl (w451 H) (w452 H) (w450 H) (w454 H) (by decide) (rm60_138 H b1 a2 Ol1 O1 ge1) e1 rfl rfl rfl (lenOf pd_32 rfl) rfl d59_9 (by decide) ?_
  rintro T2 v2 L2 X2 ⟨rfl, N2q, Kc2, g1⟩
  obtain ⟨N2, Ol2, Kp2⟩ := ivK (Fr.nil _) Ol1 Kp1 N2q Kc2 (allS ge1 all0) (kaS (Or.inr sz1) all0)
  show Go _ _ _ _ _ (mkF _ _ _ [.ref b1])
  refine G13 X2 K rfl rfl rfl d59_12 (by decide) (by decide) ?_
  exact ⟨b1, rfl, N2, Kp2, sz1, g1⟩
theorem rm57_140 (H : Hyp Z a0) (a1 a2 a3 a4 a5 a6 a7 a8 : Addr) (k1 : ClassId) (Ol0 : Old Z (ζ Z) h0) (B_1 : Ω5 Z h0 a1 (.float 1061158912) (.ref a3) (.int 12) (.int 5) (.int 5)) (A_1 : Arv Z h0 a3 k1 (.object Q6) 16 [.null, .ref a4, .ref a5, .ref a6, .ref a7, .ref a8, .null, .null, .null, .null, .null, .null, .null, .null, .null, .null] .null) (O_1 : Ovr Z k1 Q6) (ge_1 : (ζ Z) ≤ a3) (ne_1 : a1 ≠ a3) (ge_2 : (ζ Z) ≤ a1) (ne_2 : a3 ≠ a1) :
    Mt l Z M70 C3 13 (some (.object Q3)) [] ⟨3, 1, 4, 47⟩ #[.ref a1, .int 102, .ref a2, (.ref (el0 Z a0 133)), .int 0, .int 1] h0 (fun v h L => (∃ (bx1 : Addr), v = some .null ∧ Fr (ζ Z) L ∧ Keep h0 h [a3, a1] ∧ h0.size ≤ bx1 ∧ Arv Z h a3 k1 (.object Q6) 16 [.null, .ref a4, .ref a5, .ref a6, .ref a7, .ref a8, .ref bx1, .null, .null, .null, .null, .null, .null, .null, .null, .null] .null ∧ Ω5 Z h a1 (.float 1061158912) (.ref a3) (.int 12) (.int 6) (.int 6) ∧ Ω9 Z h bx1 (.int 102) (.ref a2) (.ref (el0 Z a0 133)) .null)) := by
  refine g_be (pf pn16) (ef_48 a1 a2 (el0 Z a0 133)) fun T0 K X0 e0 => ?_
  refine G0 X0 K d57_0 rfl rfl ?_
  refine G2 X0 K (w433 H) Via.refl e0 B_1.2.2.1 d57_1 ?_
  intro T1 X1 e1
  refine G9 X1 K d57_4 rfl ?_
  refine G26 X1 K (L' := #[vr a1, vi 102, vr a2, vr (el0 Z a0 133), vi 0, vi 1, vr a3, un, un, un, un, un, un]) d57_5 rfl rfl ?_
  refine G62 X1 K d57_7 ?_
  refine G7 X1 K d57_10 rfl rfl ?_
  refine G21 X1 K e1 A_1 d57_12 ?_
  refine G9 X1 K d57_13 rfl ?_
  refine G12 X1 K (L' := #[vr a1, vi 102, vr a2, vr (el0 Z a0 133), vi 0, vi 1, vr a3, un, vi 16, un, un, un, un]) d57_14 rfl ?_
  refine G15 29 X1 K d57_16 (by decide) (by decide) (by decide) ?_
  refine G7 X1 K d57_29 rfl rfl ?_
  refine G4 X1 K d57_31 rfl ?_
  refine G3 X1 K (v := 1) d57_33 (by decide) ?_
  refine G45 X1 K d57_34 (z := 15) (by decide) ?_
  refine G1 X1 K d57_35 rfl ?_
  refine G30 X1 K d57_36 (z := 6) (by decide) ?_
  refine G9 X1 K d57_37 rfl ?_
  refine G12 X1 K (L' := #[vr a1, vi 102, vr a2, vr (el0 Z a0 133), vi 0, vi 1, vr a3, un, vi 16, vi 6, un, un, un]) d57_38 rfl ?_
  refine G36 X1 K (v := .null) e1 A_1 rfl (by decide) rfl d57_40 ?_
  refine G9 X1 K d57_41 rfl ?_
  refine G26 X1 K (L' := #[vr a1, vi 102, vr a2, vr (el0 Z a0 133), vi 0, vi 1, vr a3, vn, vi 16, vi 6, un, un, un]) d57_42 rfl rfl ?_
  refine G52 X1 K d57_44 ?_
  refine G7 X1 K d57_47 rfl rfl ?_
  refine G4 X1 K d57_49 rfl ?_
  refine G0 X1 K d57_51 rfl rfl ?_
  refine G1 X1 K d57_52 rfl ?_
  refine G0 X1 K d57_53 rfl rfl ?_
  refine G0 X1 K d57_54 rfl rfl ?_
  refine G28 X1 K d57_55 ?_
  refine G8 X1 K (W := 2) (w444 H) (w445 H) (nf_self K (w447 H)) (w447 H) (w446 H) (w212 H) (w448 H) (by decide) (rm59_139 H a1 a2 Ol0) e1 B_1.1 rfl rfl rfl (lenOf pd_33 rfl) rfl d57_56 (by decide) ?_
  rintro T2 v2 L2 X2 ⟨bx1, rfl, N2q, Kc2, lz2_0, g1⟩
  have szbx1 := Nat.le_trans (Keep.refl h0 [a3, a1]).1 lz2_0
  have gebx1 := Nat.le_trans Ol0.2.1 lz2_0
  have so1 := Sd.one bx1
  obtain ⟨N2, Ol2, Kp2⟩ := ivK (Fr.nil _) Ol0 (Keep.refl h0 [a3, a1]) N2q Kc2 all0 all0
  show Go _ _ _ _ _ (mkF _ _ _ [.ref bx1, .int 6, .ref a3])
  have f1 := (A_1.keep Kc2 nin0)
  refine G32 X2 K (vs' := [.null, .ref a4, .ref a5, .ref a6, .ref a7, .ref a8, .ref bx1, .null, .null, .null, .null, .null, .null, .null, .null, .null]) rfl f1 (Or.inr ⟨_, rfl, O_1, (Ins.self g1.1)⟩) (by decide) (Nat.le_of_ble_eq_true rfl) rfl d57_59 ?_
  intro T3 h3 X3 e3 W3 F3
  obtain ⟨N3, Ol3, Kp3⟩ := ivW N2 Ol2 Kp2 X3 W3 ge_1 (ow 0 rfl)
  refine G6 259 X3 K d57_60 (by decide) (by decide) ?_
  refine G0 X3 K d57_259 rfl rfl ?_
  refine G9 X3 K d57_260 rfl ?_
  have f2 := ((B_1.keep Kc2 nin0).other W3 ne_1)
  refine G2 X3 K (w464 H) Via.refl e3 f2.2.2.2.2.1 d57_261 ?_
  intro T4 X4 e4
  refine G3 X4 K (v := 1) d57_264 (by decide) ?_
  refine G16 X4 K d57_265 (z := 6) (by decide) ?_
  refine G5 X4 K (w464 H) Via.refl e4 f2.2.2.2.2.1 f2.1 (Or.inl (w465 H)) (w211 H) (ty := .int) (by decide) rfl rfl d57_266 ?_
  intro T5 h5 X5 e5 W5 F5
  obtain ⟨N5, Ol5, Kp5⟩ := ivW N3 Ol3 Kp3 X5 W5 ge_2 (ow 1 rfl)
  have O5 := Ω5.s3 H f2 W5
  refine G0 X5 K d57_269 rfl rfl ?_
  refine G9 X5 K d57_270 rfl ?_
  refine G2 X5 K (w466 H) Via.refl e5 O5.2.2.2.2.2 d57_271 ?_
  intro T6 X6 e6
  refine G3 X6 K (v := 1) d57_274 (by decide) ?_
  refine G16 X6 K d57_275 (z := 6) (by decide) ?_
  refine G46 X6 K d57_276 rfl rfl ?_
  refine G5 X6 K (w466 H) Via.refl e6 O5.2.2.2.2.2 O5.1 (Or.inl (w467 H)) (w211 H) (ty := .int) (by decide) rfl rfl d57_277 ?_
  intro T7 h7 X7 e7 W7 F7
  obtain ⟨N7, Ol7, Kp7⟩ := ivW N5 Ol5 Kp5 X7 W7 ge_2 (ow 1 rfl)
  have O7 := Ω5.s4 H O5 W7
  refine G0 X7 K d57_280 rfl rfl ?_
  refine G2 X7 K (w440 H) Via.refl e7 O7.2.2.2.1 d57_281 ?_
  intro T8 X8 e8
  refine G19 292 X8 K d57_284 (by decide) (by decide) (by decide) ?_
  refine G0 X8 K d57_292 rfl rfl ?_
  refine G4 X8 K d57_293 rfl ?_
  refine G8 X8 K (W := 0) (w468 H) (w469 H) (nf_self K (w471 H)) (w471 H) (w470 H) (w212 H) (w472 H) (by decide) (rm61_89 H a1 Ol7) e8 O7.1 rfl rfl rfl (lenOf pd_34 rfl) rfl d57_295 (by decide) ?_
  rintro T9 v9 L9 X9 ⟨rfl, N9q, e9⟩
  have N9 := Fr.app N7 N9q
  show Go _ _ _ _ _ (mkF _ _ _ [])
  refine G28 X9 K d57_298 ?_
  refine G13 X9 K rfl rfl rfl d57_299 (by decide) (by decide) ?_
  have Kp : Keep h0 T9.heap [a3, a1] := by rw [e9]; exact Kp7
  have f3 := ((F3.other W5 ne_2).other W7 ne_2)
  have ne1 : a3 ≠ bx1 := (Nat.ne_of_lt (Nat.lt_of_lt_of_le A_1.lt szbx1))
  have ne2 : a1 ≠ bx1 := (Nat.ne_of_lt (Nat.lt_of_lt_of_le B_1.lt szbx1))
  have f4 := (((g1.other W3 (Ne.symm ne1)).other W5 (Ne.symm ne2)).other W7 (Ne.symm ne2))
  exact ⟨bx1, rfl, N9, Kp, szbx1, (by rw [e9]; exact f3), (by rw [e9]; exact O7), (by rw [e9]; exact f4)⟩
theorem rm52_141 (H : Hyp Z a0) (a1 a2 a3 : Addr) (k1 : ClassId) (a4 a5 a6 a7 a8 a9 : Addr) (k2 : ClassId) (Ol0 : Old Z (ζ Z) h0) (B_1 : Ω1 Z h0 a2 (.ref a3) (.int 0) (.int 0) (.int 0)) (A_1 : Arv Z h0 a3 k1 .byte 1 [.int 102] (.int 0)) (ge_1 : (ζ Z) ≤ a2) (B_2 : Ω5 Z h0 a1 (.float 1061158912) (.ref a4) (.int 12) (.int 5) (.int 5)) (A_2 : Arv Z h0 a4 k2 (.object Q6) 16 [.null, .ref a5, .ref a6, .ref a7, .ref a8, .ref a9, .null, .null, .null, .null, .null, .null, .null, .null, .null, .null] .null) (ne_1 : a1 ≠ a2) (ne_2 : a4 ≠ a2) (O_1 : Ovr Z k2 Q6) (ge_2 : (ζ Z) ≤ a4) (ne_3 : a1 ≠ a4) (ge_3 : (ζ Z) ≤ a1) (ne_4 : a4 ≠ a1) (ne_5 : a2 ≠ a1) (ne_6 : a2 ≠ a4) :
    Mt l Z M64 C32 3 (some (.object Q3)) [] ⟨4, 1, 4, 71⟩ #[.ref a1, .ref a2, (.ref (el0 Z a0 133))] h0 (fun v h L => (∃ (bx1 : Addr), v = some .null ∧ Fr (ζ Z) L ∧ Keep h0 h [a2, a4, a1] ∧ h0.size ≤ bx1 ∧ Ω1 Z h a2 (.ref a3) (.int 0) (.int 102) (.int 0) ∧ Arv Z h a4 k2 (.object Q6) 16 [.null, .ref a5, .ref a6, .ref a7, .ref a8, .ref a9, .ref bx1, .null, .null, .null, .null, .null, .null, .null, .null, .null] .null ∧ Ω5 Z h a1 (.float 1061158912) (.ref a4) (.int 12) (.int 6) (.int 6) ∧ Ω9 Z h bx1 (.int 102) (.ref a2) (.ref (el0 Z a0 133)) .null)) := by
  refine g_be (pf pn16) (ef_16 a1 a2 (el0 Z a0 133)) fun T0 K X0 e0 => ?_
  refine G0 X0 K d52_0 rfl rfl ?_
  refine G0 X0 K d52_1 rfl rfl ?_
  refine G14 X0 K (W := 1) (w407 H) (w408 H) (w212 H) (w409 H) (by decide) (rm53_137 H a2 a3 k1 Ol0 B_1 A_1 ge_1) e0 rfl rfl rfl (lenOf pd_30 rfl) rfl d52_2 (by decide) ?_
  rintro T1 v1 L1 X1 ⟨rfl, N1q, Kc1, g1⟩
  obtain ⟨N1, Ol1, Kp1⟩ := ivK (Fr.nil _) Ol0 (Keep.refl h0 [a2, a4, a1]) N1q Kc1 (allS ge_1 all0) (kaS (ow 0 rfl) all0)
  show Go _ _ _ _ _ (mkF _ _ _ [.int 102, .ref a1])
  refine G0 X1 K d52_5 rfl rfl ?_
  refine G0 X1 K d52_6 rfl rfl ?_
  refine G3 X1 K (v := 0) d52_7 (by decide) ?_
  refine G3 X1 K (v := 1) d52_8 (by decide) ?_
  have f1 := (B_2.keep Kc1 (ninS ne_1 nin0))
  have f2 := (A_2.keep Kc1 (ninS ne_2 nin0))
  refine G8 X1 K (W := 0) (w428 H) (w429 H) (nf_self K (w431 H)) (w431 H) (w430 H) (w212 H) (w432 H) (by decide) (rm57_140 H a1 a2 a4 a5 a6 a7 a8 a9 k2 Ol1 f1 f2 O_1 ge_2 ne_3 ge_3 ne_4) rfl f1.1 rfl rfl rfl (lenOf pd_35 rfl) rfl d52_9 (by decide) ?_
  rintro T2 v2 L2 X2 ⟨bx1, rfl, N2q, Kc2, lz2_0, g2, g3, g4⟩
  have szbx1 := Nat.le_trans Kp1.1 lz2_0
  have gebx1 := Nat.le_trans Ol1.2.1 lz2_0
  have so1 := Sd.one bx1
  obtain ⟨N2, Ol2, Kp2⟩ := ivK N1 Ol1 Kp1 N2q Kc2 (allS ge_2 (allS ge_3 all0)) (kaS (ow 1 rfl) (kaS (ow 2 rfl) all0))
  show Go _ _ _ _ _ (mkF _ _ _ [.null])
  refine G13 X2 K rfl rfl rfl d52_12 (by decide) (by decide) ?_
  have f3 := (g1.keep Kc2 (ninS ne_6 (ninS ne_5 nin0)))
  exact ⟨bx1, rfl, N2, Kp2, szbx1, f3, g2, g3, g4⟩
theorem rm43_142 (H : Hyp Z a0) (a1 a2 a3 : Addr) (Ol0 : Old Z (ζ Z) h0) (B_1 : Ω7 Z h0 a1 (.ref a2) (.int 1) (.int 2) (.int 2)) (B_2 : Ω0 Z h0 a2 (.int 2) (.ref a3) (.int 2)) :
    Mt l Z M51 C39 1 (some .boolean) [] ⟨0, 0, 0, 0⟩ #[.ref a1] h0 (fun v h L => (v = some (.int 0) ∧ Fr (ζ Z) L ∧ h = h0)) := by
  refine g_be (pf pn13) (ef_0 a1) fun T0 K X0 e0 => ?_
  refine G0 X0 K d43_0 rfl rfl ?_
  refine G2 X0 K (w332 H) Via.refl e0 B_1.2.2.2.2 d43_1 ?_
  intro T1 X1 e1
  refine G0 X1 K d43_4 rfl rfl ?_
  refine G2 X1 K (w315 H) Via.refl e1 B_1.2.1 d43_5 ?_
  intro T2 X2 e2
  refine G61 X2 K (tw H 334 rfl) Via.refl e2 B_2.2.2.2 d43_8 ?_
  intro T3 X3 e3
  refine G19 18 X3 K d43_11 (by decide) (by decide) (by decide) ?_
  refine G3 X3 K (v := 0) d43_18 (by decide) ?_
  refine G31 X3 K (by simp) (z' := 0) (by decide) d43_19 (by decide) (by decide) ?_
  exact ⟨rfl, (Fr.nil _), e3⟩
theorem rm30_143 (H : Hyp Z a0) (a1 a2 a3 a4 a5 a6 : Addr) (k1 : ClassId) (a7 a8 a9 a10 a11 a12 a13 a14 : Addr) (k2 : ClassId) (a15 : Addr) (k3 : ClassId) (a16 : Addr) (k4 : ClassId) (a17 : Addr) (k5 : ClassId) (a18 a19 a20 a21 : Addr) (k6 : ClassId) (a22 : Addr) (k7 : ClassId) (a23 : Addr) (k8 : ClassId) (a24 : Addr) (k9 : ClassId) (Ol0 : Old Z (ζ Z) h0) (B_1 : Ω4 Z h0 a1 .null .null .null .null (.int 0) .null) (ge_1 : (ζ Z) ≤ a1) (B_2 : Ω0 Z h0 a3 (.int 2) (.ref a4) (.int 2)) (A_1 : Arv Z h0 a4 k1 (.object Q3) 10 [.ref a5, .ref a6, .null, .null, .null, .null, .null, .null, .null, .null] .null) (B_3 : Ω2 Z h0 a6 (.ref a7) (.ref a8)) (B_4 : Ω2 Z h0 a5 (.ref a9) (.ref a10)) (E_1 : Exa Z h0 a4 Q7) (B_5 : Ω3 Z h0 a10 (.ref a11) (.int 0)) (A_2 : Arv Z h0 a11 k2 (.object Q3) 3 [.ref a12, .ref a13, .ref a14] .null) (B_6 : Ω1 Z h0 a12 (.ref a15) (.int 0) (.int 0) (.int 0)) (ne_1 : a12 ≠ a1) (A_3 : Arv Z h0 a15 k3 .byte 1 [.int 97] (.int 0)) (ge_2 : (ζ Z) ≤ a12) (B_7 : Ω1 Z h0 a13 (.ref a16) (.int 0) (.int 0) (.int 0)) (ne_2 : a13 ≠ a1) (ne_3 : a13 ≠ a12) (ne_4 : a1 ≠ a12) (A_4 : Arv Z h0 a16 k4 .byte 1 [.int 98] (.int 0)) (ge_3 : (ζ Z) ≤ a13) (B_8 : Ω1 Z h0 a14 (.ref a17) (.int 0) (.int 0) (.int 0)) (ne_5 : a14 ≠ a1) (ne_6 : a14 ≠ a12) (ne_7 : a14 ≠ a13) (ne_8 : a1 ≠ a13) (A_5 : Arv Z h0 a17 k5 .byte 1 [.int 99] (.int 0)) (ge_4 : (ζ Z) ≤ a14) (B_9 : Ω3 Z h0 a8 (.ref a18) (.int 0)) (A_6 : Arv Z h0 a18 k6 (.object Q3) 3 [.ref a19, .ref a20, .ref a21] .null) (B_10 : Ω1 Z h0 a19 (.ref a22) (.int 0) (.int 0) (.int 0)) (ne_9 : a19 ≠ a1) (ne_10 : a19 ≠ a14) (ne_11 : a19 ≠ a13) (ne_12 : a19 ≠ a12) (ne_13 : a1 ≠ a14) (A_7 : Arv Z h0 a22 k7 .byte 1 [.int 100] (.int 0)) (ge_5 : (ζ Z) ≤ a19) (B_11 : Ω1 Z h0 a20 (.ref a23) (.int 0) (.int 0) (.int 0)) (ne_14 : a20 ≠ a1) (ne_15 : a20 ≠ a14) (ne_16 : a20 ≠ a13) (ne_17 : a20 ≠ a12) (ne_18 : a20 ≠ a19) (ne_19 : a1 ≠ a19) (A_8 : Arv Z h0 a23 k8 .byte 1 [.int 101] (.int 0)) (ge_6 : (ζ Z) ≤ a20) (B_12 : Ω1 Z h0 a21 (.ref a24) (.int 0) (.int 0) (.int 0)) (ne_20 : a21 ≠ a20) (ne_21 : a21 ≠ a19) (ne_22 : a21 ≠ a14) (ne_23 : a21 ≠ a13) (ne_24 : a21 ≠ a12) (ne_25 : a21 ≠ a1) (ne_26 : a1 ≠ a20) (A_9 : Arv Z h0 a24 k9 .byte 1 [.int 102] (.int 0)) (ge_7 : (ζ Z) ≤ a21) (ne_27 : a1 ≠ a21) (ne_28 : a12 ≠ a14) (ne_29 : a12 ≠ a13) (ne_30 : a12 ≠ a20) (ne_31 : a12 ≠ a19) (ne_32 : a12 ≠ a21) (ne_33 : a13 ≠ a14) (ne_34 : a13 ≠ a20) (ne_35 : a13 ≠ a19) (ne_36 : a13 ≠ a21) (ne_37 : a14 ≠ a20) (ne_38 : a14 ≠ a19) (ne_39 : a14 ≠ a21) (ne_40 : a19 ≠ a20) (ne_41 : a19 ≠ a21) (ne_42 : a20 ≠ a21) (ne_43 : a10 ≠ a21) (ne_44 : a10 ≠ a20) (ne_45 : a10 ≠ a19) (ne_46 : a10 ≠ a14) (ne_47 : a10 ≠ a13) (ne_48 : a10 ≠ a12) (ne_49 : a10 ≠ a1) (ne_50 : a11 ≠ a21) (ne_51 : a11 ≠ a20) (ne_52 : a11 ≠ a19) (ne_53 : a11 ≠ a14) (ne_54 : a11 ≠ a13) (ne_55 : a11 ≠ a12) (ne_56 : a11 ≠ a1) (ne_57 : a15 ≠ a21) (ne_58 : a15 ≠ a20) (ne_59 : a15 ≠ a19) (ne_60 : a15 ≠ a14) (ne_61 : a15 ≠ a13) (ne_62 : a15 ≠ a12) (ne_63 : a15 ≠ a1) (ne_64 : a16 ≠ a21) (ne_65 : a16 ≠ a20) (ne_66 : a16 ≠ a19) (ne_67 : a16 ≠ a14) (ne_68 : a16 ≠ a13) (ne_69 : a16 ≠ a12) (ne_70 : a16 ≠ a1) (ne_71 : a17 ≠ a21) (ne_72 : a17 ≠ a20) (ne_73 : a17 ≠ a19) (ne_74 : a17 ≠ a14) (ne_75 : a17 ≠ a13) (ne_76 : a17 ≠ a12) (ne_77 : a17 ≠ a1) (ne_78 : a18 ≠ a21) (ne_79 : a18 ≠ a20) (ne_80 : a18 ≠ a19) (ne_81 : a18 ≠ a14) (ne_82 : a18 ≠ a13) (ne_83 : a18 ≠ a12) (ne_84 : a18 ≠ a1) (ne_85 : a22 ≠ a21) (ne_86 : a22 ≠ a20) (ne_87 : a22 ≠ a19) (ne_88 : a22 ≠ a14) (ne_89 : a22 ≠ a13) (ne_90 : a22 ≠ a12) (ne_91 : a22 ≠ a1) (ne_92 : a23 ≠ a21) (ne_93 : a23 ≠ a20) (ne_94 : a23 ≠ a19) (ne_95 : a23 ≠ a14) (ne_96 : a23 ≠ a13) (ne_97 : a23 ≠ a12) (ne_98 : a23 ≠ a1) (ne_99 : a24 ≠ a21) (ne_100 : a24 ≠ a20) (ne_101 : a24 ≠ a19) (ne_102 : a24 ≠ a14) (ne_103 : a24 ≠ a13) (ne_104 : a24 ≠ a12) (ne_105 : a24 ≠ a1) (ne_106 : a3 ≠ a21) (ne_107 : a3 ≠ a20) (ne_108 : a3 ≠ a19) (ne_109 : a3 ≠ a14) (ne_110 : a3 ≠ a13) (ne_111 : a3 ≠ a12) (ne_112 : a3 ≠ a1) (ne_113 : a4 ≠ a21) (ne_114 : a4 ≠ a20) (ne_115 : a4 ≠ a19) (ne_116 : a4 ≠ a14) (ne_117 : a4 ≠ a13) (ne_118 : a4 ≠ a12) (ne_119 : a4 ≠ a1) (ne_120 : a5 ≠ a21) (ne_121 : a5 ≠ a20) (ne_122 : a5 ≠ a19) (ne_123 : a5 ≠ a14) (ne_124 : a5 ≠ a13) (ne_125 : a5 ≠ a12) (ne_126 : a5 ≠ a1) (ne_127 : a6 ≠ a21) (ne_128 : a6 ≠ a20) (ne_129 : a6 ≠ a19) (ne_130 : a6 ≠ a14) (ne_131 : a6 ≠ a13) (ne_132 : a6 ≠ a12) (ne_133 : a6 ≠ a1) (ne_134 : a8 ≠ a21) (ne_135 : a8 ≠ a20) (ne_136 : a8 ≠ a19) (ne_137 : a8 ≠ a14) (ne_138 : a8 ≠ a13) (ne_139 : a8 ≠ a12) (ne_140 : a8 ≠ a1) :
    Mt l Z M34 C2 8 none [] ⟨8, 15, 73, 102⟩ #[.ref a1, .ref a2, .ref a3] h0 (fun v h L => (∃ (b2 b5 bx1 b18 bx4 bx5 bx6 bx7 bx9 bx10 bx11 : Addr) (kA18 kB1 : ClassId), v = none ∧ Fr (ζ Z) L ∧ Keep h0 h [a1, a12, a13, a14, a19, a20, a21] ∧ h0.size ≤ b2 ∧ b2 < b5 ∧ b5 < bx1 ∧ bx1 < b18 ∧ b18 < bx4 ∧ bx4 < bx5 ∧ bx5 < bx6 ∧ bx6 < bx7 ∧ bx7 < bx9 ∧ bx9 < bx10 ∧ bx10 < bx11 ∧ Ω4 Z h a1 (.ref b2) (.ref b5) (.ref a2) (.ref bx1) (.int 3) (.ref b18) ∧ Ω1 Z h a12 (.ref a15) (.int 0) (.int 97) (.int 0) ∧ Ω1 Z h a13 (.ref a16) (.int 0) (.int 98) (.int 0) ∧ Ω1 Z h a14 (.ref a17) (.int 0) (.int 99) (.int 0) ∧ Ω1 Z h a19 (.ref a22) (.int 0) (.int 100) (.int 0) ∧ Ω1 Z h a20 (.ref a23) (.int 0) (.int 101) (.int 0) ∧ Ω1 Z h a21 (.ref a24) (.int 0) (.int 102) (.int 0) ∧ Ω5 Z h b2 (.float 1061158912) (.ref bx4) (.int 12) (.int 6) (.int 6) ∧ Ω0 Z h b5 (.int 0) (.ref (ad1 Z a0)) (.int 0) ∧ Ω6 Z h bx1 (.ref a5) (.ref a6) ∧ Arv Z h b18 kA18 (.object Q10) 6 [.ref a12, .ref a13, .ref a14, .ref a19, .ref a20, .ref a21] .null ∧ Exa Z h b18 Q41 ∧ Ovr Z kA18 Q10 ∧ Arv Z h bx4 kB1 (.object Q6) 16 [.null, .ref bx5, .ref bx6, .ref bx7, .ref bx9, .ref bx10, .ref bx11, .null, .null, .null, .null, .null, .null, .null, .null, .null] .null ∧ Exa Z h bx4 Q25 ∧ Ovr Z kB1 Q6 ∧ Ω9 Z h bx5 (.int 97) (.ref a12) (.ref (el0 Z a0 128)) .null ∧ Ω9 Z h bx6 (.int 98) (.ref a13) (.ref (el0 Z a0 129)) .null ∧ Ω9 Z h bx7 (.int 99) (.ref a14) (.ref (el0 Z a0 130)) .null ∧ Ω9 Z h bx9 (.int 100) (.ref a19) (.ref (el0 Z a0 131)) .null ∧ Ω9 Z h bx10 (.int 101) (.ref a20) (.ref (el0 Z a0 132)) .null ∧ Ω9 Z h bx11 (.int 102) (.ref a21) (.ref (el0 Z a0 133)) .null)) := by
  refine g_be (pf pn3) (ef_49 a1 a2 a3) fun T0 K X0 e0 => ?_
  have nw_a10 : a10 ∉ [a1, a12, a13, a14, a19, a20, a21] := (ninS ne_49 (ninS ne_48 (ninS ne_47 (ninS ne_46 (ninS ne_45 (ninS ne_44 (ninS ne_43 nin0)))))))
  have nw_a11 : a11 ∉ [a1, a12, a13, a14, a19, a20, a21] := (ninS ne_56 (ninS ne_55 (ninS ne_54 (ninS ne_53 (ninS ne_52 (ninS ne_51 (ninS ne_50 nin0)))))))
  have nw_a15 : a15 ∉ [a1, a12, a13, a14, a19, a20, a21] := (ninS ne_63 (ninS ne_62 (ninS ne_61 (ninS ne_60 (ninS ne_59 (ninS ne_58 (ninS ne_57 nin0)))))))
  have nw_a16 : a16 ∉ [a1, a12, a13, a14, a19, a20, a21] := (ninS ne_70 (ninS ne_69 (ninS ne_68 (ninS ne_67 (ninS ne_66 (ninS ne_65 (ninS ne_64 nin0)))))))
  have nw_a17 : a17 ∉ [a1, a12, a13, a14, a19, a20, a21] := (ninS ne_77 (ninS ne_76 (ninS ne_75 (ninS ne_74 (ninS ne_73 (ninS ne_72 (ninS ne_71 nin0)))))))
  have nw_a18 : a18 ∉ [a1, a12, a13, a14, a19, a20, a21] := (ninS ne_84 (ninS ne_83 (ninS ne_82 (ninS ne_81 (ninS ne_80 (ninS ne_79 (ninS ne_78 nin0)))))))
  have nw_a22 : a22 ∉ [a1, a12, a13, a14, a19, a20, a21] := (ninS ne_91 (ninS ne_90 (ninS ne_89 (ninS ne_88 (ninS ne_87 (ninS ne_86 (ninS ne_85 nin0)))))))
  have nw_a23 : a23 ∉ [a1, a12, a13, a14, a19, a20, a21] := (ninS ne_98 (ninS ne_97 (ninS ne_96 (ninS ne_95 (ninS ne_94 (ninS ne_93 (ninS ne_92 nin0)))))))
  have nw_a24 : a24 ∉ [a1, a12, a13, a14, a19, a20, a21] := (ninS ne_105 (ninS ne_104 (ninS ne_103 (ninS ne_102 (ninS ne_101 (ninS ne_100 (ninS ne_99 nin0)))))))
  have nw_a3 : a3 ∉ [a1, a12, a13, a14, a19, a20, a21] := (ninS ne_112 (ninS ne_111 (ninS ne_110 (ninS ne_109 (ninS ne_108 (ninS ne_107 (ninS ne_106 nin0)))))))
  have nw_a4 : a4 ∉ [a1, a12, a13, a14, a19, a20, a21] := (ninS ne_119 (ninS ne_118 (ninS ne_117 (ninS ne_116 (ninS ne_115 (ninS ne_114 (ninS ne_113 nin0)))))))
  have nw_a5 : a5 ∉ [a1, a12, a13, a14, a19, a20, a21] := (ninS ne_126 (ninS ne_125 (ninS ne_124 (ninS ne_123 (ninS ne_122 (ninS ne_121 (ninS ne_120 nin0)))))))
  have nw_a6 : a6 ∉ [a1, a12, a13, a14, a19, a20, a21] := (ninS ne_133 (ninS ne_132 (ninS ne_131 (ninS ne_130 (ninS ne_129 (ninS ne_128 (ninS ne_127 nin0)))))))
  have nw_a8 : a8 ∉ [a1, a12, a13, a14, a19, a20, a21] := (ninS ne_140 (ninS ne_139 (ninS ne_138 (ninS ne_137 (ninS ne_136 (ninS ne_135 (ninS ne_134 nin0)))))))
  refine G0 X0 K d30_0 rfl rfl ?_
  refine G40 X0 K (W := 0) (tw H 209 rfl) (w20 H) (w21 H) e0 rfl d30_1 (by decide) (Nat.le_of_eq rfl) (by decide) ?_
  intro T1 X1 e1
  refine G0 X1 K d30_4 rfl rfl ?_
  refine G27 X1 K (tw H 210 rfl) (w211 H) (w212 H) e1 d30_5 (by decide) (by decide) ?_
  intro T2 h2 b2 X2 e2 E2 z2 A2 D2
  obtain ⟨sz2, ge2, Ol2, Kp2⟩ := ivE Ol0 (Keep.refl h0 [a1, a12, a13, a14, a19, a20, a21]) E2 z2
  have so1 := Sd.one b2
  have O2 := Ω5.new H A2 D2
  refine G9 X2 K d30_8 rfl ?_
  refine G23 X2 K (W := 2) rfl (tw H 213 rfl) (tw H 214 rfl) (w212 H) (tw H 215 rfl) (by decide) (rm31_54 H b2 Ol2 O2 ge2) e2 rfl rfl rfl (lenOf pd_0 rfl) rfl d30_9 (by decide) ?_
  rintro T3 v3 L3 X3 ⟨rfl, N3q, Kc3, g1⟩
  obtain ⟨N3, Ol3, Kp3⟩ := ivK (Fr.nil _) Ol2 Kp2 N3q Kc3 (allS ge2 all0) (kaS (Or.inr sz2) all0)
  show Go _ _ _ _ _ (mkF _ _ _ [.ref b2, .ref a1])
  have ne1 : a1 ≠ b2 := (Nat.ne_of_lt (Nat.lt_of_lt_of_le B_1.lt sz2))
  have f1 := ((B_1.ext E2).keep Kc3 (ninS ne1 nin0))
  refine G5 X3 K (w226 H) Via.refl rfl f1.2.1 f1.1 (Or.inr ⟨(tw H 227 rfl), rfl, rfl⟩) (w203 H) (ty := (.object "java/util/Map")) (by decide) rfl rfl d30_12 ?_
  intro T4 h4 X4 e4 W4 F4
  obtain ⟨N4, Ol4, Kp4⟩ := ivW N3 Ol3 Kp3 X4 W4 ge_1 (ow 0 rfl)
  have O4 := Ω4.s0 H f1 W4
  refine G0 X4 K d30_15 rfl rfl ?_
  refine G27 X4 K (tw H 228 rfl) (w2 H) (w3 H) e4 d30_16 (by decide) (by decide) ?_
  intro T5 h5 b5 X5 e5 E5 z5 A5 D5
  have f2 := (g1.other W4 (Ne.symm ne1))
  obtain ⟨sz5, ge5, Ol5, Kp5⟩ := ivE Ol4 Kp4 E5 z5
  have lk5 := Nat.lt_of_lt_of_eq f2.lt z5
  have so2 := so1.cons lk5
  have O5 := Ω0.new H A5 D5
  refine G9 X5 K d30_19 rfl ?_
  refine G23 X5 K (W := 2) rfl (tw H 229 rfl) (tw H 5 rfl) (w3 H) (tw H 6 rfl) (by decide) (rm1_3 H b5 Ol5 O5 ge5) e5 rfl rfl rfl (lenOf pd_0 rfl) rfl d30_20 (by decide) ?_
  rintro T6 v6 L6 X6 ⟨rfl, N6q, Kc6, g2⟩
  obtain ⟨N6, Ol6, Kp6⟩ := ivK N4 Ol5 Kp5 N6q Kc6 (allS ge5 all0) (kaS (Or.inr sz5) all0)
  show Go _ _ _ _ _ (mkF _ _ _ [.ref b5, .ref a1])
  have ne2 : a1 ≠ b5 := (Nat.ne_of_lt (Nat.lt_of_lt_of_le B_1.lt sz5))
  have f3 := ((O4.ext E5).keep Kc6 (ninS ne2 nin0))
  refine G5 X6 K (tw H 230 rfl) Via.refl rfl f3.2.2.1 f3.1 (Or.inr ⟨(tw H 231 rfl), rfl, rfl⟩) (w203 H) (ty := (.object Q19)) (by decide) rfl rfl d30_23 ?_
  intro T7 h7 X7 e7 W7 F7
  obtain ⟨N7, Ol7, Kp7⟩ := ivW N6 Ol6 Kp6 X7 W7 ge_1 (ow 0 rfl)
  have O7 := Ω4.s1 H f3 W7
  refine G0 X7 K d30_26 rfl rfl ?_
  refine G0 X7 K d30_27 rfl rfl ?_
  refine G5 X7 K (tw H 232 rfl) Via.refl e7 O7.2.2.2.1 O7.1 (Or.inr ⟨(tw H 233 rfl), rfl, rfl⟩) (w203 H) (ty := (.object Q10)) (by decide) rfl rfl d30_28 ?_
  intro T8 h8 X8 e8 W8 F8
  obtain ⟨N8, Ol8, Kp8⟩ := ivW N7 Ol7 Kp7 X8 W8 ge_1 (ow 0 rfl)
  have O8 := Ω4.s2 H O7 W8
  refine G0 X8 K d30_31 rfl rfl ?_
  refine G0 X8 K d30_32 rfl rfl ?_
  have f4 := B_2.keep Kp8 nw_a3
  have f5 := A_1.keep Kp8 nw_a4
  have f6 := B_3.keep Kp8 nw_a6
  have f7 := B_4.keep Kp8 nw_a5
  have f8 := E_1.keep Kp8
  refine G14 X8 K (W := 1) (tw H 234 rfl) (tw H 102 rfl) (tw H 103 rfl) (tw H 104 rfl) (by decide) (rm17_63 H a3 a4 a5 a6 k1 a7 a8 a9 a10 Ol8 f4 f5 f6 f7 f8) e8 rfl rfl rfl (lenOf pd_16 rfl) rfl d30_33 (by decide) ?_
  rintro T9 v9 L9 X9 ⟨bx1, rfl, N9q, Kc9, lz9_0, g3⟩
  have szbx1 := Nat.le_trans Kp8.1 lz9_0
  have gebx1 := Nat.le_trans Ol8.2.1 lz9_0
  have f9 := ((g2.other W7 (Ne.symm ne2)).other W8 (Ne.symm ne2))
  have lkbx1 : b5 < bx1 := Nat.lt_of_lt_of_le f9.lt lz9_0
  have so3 := so2.cons lkbx1
  obtain ⟨N9, Ol9, Kp9⟩ := ivK N8 Ol8 Kp8 N9q Kc9 all0 all0
  show Go _ _ _ _ _ (mkF _ _ _ [.ref bx1, .ref a1])
  have f10 := (O8.keep Kc9 nin0)
  refine G5 X9 K (tw H 251 rfl) Via.refl rfl f10.2.2.2.2.1 f10.1 (Or.inr ⟨(tw H 252 rfl), rfl, rfl⟩) (w203 H) (ty := (.object Q19)) (by decide) rfl rfl d30_36 ?_
  intro T10 h10 X10 e10 W10 F10
  obtain ⟨N10, Ol10, Kp10⟩ := ivW N9 Ol9 Kp9 X10 W10 ge_1 (ow 0 rfl)
  have O10 := Ω4.s3 H f10 W10
  refine G0 X10 K d30_39 rfl rfl ?_
  refine G0 X10 K d30_40 rfl rfl ?_
  refine G3 X10 K (v := 0) d30_41 (by decide) ?_
  have f11 := B_2.keep Kp10 nw_a3
  have f12 := A_1.keep Kp10 nw_a4
  refine G20 X10 K (W := 1) (tw H 253 rfl) (tw H 254 rfl) (mvT K.z (tw H 255 rfl)) (tw H 256 rfl) (tw H 257 rfl) (tw H 258 rfl) (tw H 259 rfl) (w199 H) (w3 H) (tw H 260 rfl) (by decide) (rm34_67 H a3 a4 a5 a6 k1 Ol10 f11 f12) e10 f11.1 rfl rfl rfl (lenOf pd_21 rfl) rfl d30_42 (by decide) ?_
  rintro T11 v11 L11 X11 ⟨rfl, N11q, e11⟩
  have N11 := Fr.app N10 N11q
  show Go _ _ _ _ _ (mkF _ _ _ [.ref a5, .ref a1])
  have f13 := B_4.keep Kp10 nw_a5
  refine G47 X11 K (tw H 273 rfl) e11 (Ins.self f13.1) d30_47 ?_
  intro T12 X12 e12
  refine G8 X12 K (W := 1) (tw H 275 rfl) (tw H 276 rfl) (nf_self K (w278 H)) (w278 H) (tw H 277 rfl) (w91 H) (tw H 279 rfl) (by decide) (rm38_68 H a5 a9 a10 Ol10 f13) e12 f13.1 rfl rfl rfl (lenOf pd_22 rfl) rfl d30_50 (by decide) ?_
  rintro T13 v13 L13 X13 ⟨rfl, N13q, e13⟩
  have N13 := Fr.app N11 N13q
  show Go _ _ _ _ _ (mkF _ _ _ [.ref a10, .ref a1])
  have f14 := B_5.keep Kp10 nw_a10
  have f15 := A_2.keep Kp10 nw_a11
  refine G20 X13 K (W := 1) (w280 H) (w281 H) (mvT K.z (w282 H)) (tw H 283 rfl) (tw H 284 rfl) (tw H 285 rfl) (tw H 286 rfl) (w287 H) (w166 H) (tw H 288 rfl) (by decide) (rm39_69 H a10 a11 a12 a13 a14 k2 Ol10 f14 f15) e13 f14.1 rfl rfl rfl (lenOf pd_23 rfl) rfl d30_53 (by decide) ?_
  rintro T14 v14 L14 X14 ⟨rfl, N14q, e14⟩
  have N14 := Fr.app N13 N14q
  show Go _ _ _ _ _ (mkF _ _ _ [.int 3, .ref a1])
  refine G5 X14 K (tw H 289 rfl) Via.refl e14 O10.2.2.2.2.2.1 O10.1 (Or.inr ⟨(tw H 290 rfl), rfl, rfl⟩) (w203 H) (ty := .int) (by decide) rfl rfl d30_58 ?_
  intro T15 h15 X15 e15 W15 F15
  obtain ⟨N15, Ol15, Kp15⟩ := ivW N14 Ol10 Kp10 X15 W15 ge_1 (ow 0 rfl)
  have O15 := Ω4.s4 H O10 W15
  refine G0 X15 K d30_61 rfl rfl ?_
  refine G0 X15 K d30_62 rfl rfl ?_
  have f16 := B_2.keep Kp15 nw_a3
  refine G20 X15 K (W := 1) (w280 H) (w281 H) (mvT K.z (w282 H)) (tw H 291 rfl) (tw H 292 rfl) (tw H 293 rfl) (tw H 294 rfl) (w199 H) (w3 H) (tw H 295 rfl) (by decide) (rm40_70 H a3 a4 Ol15 f16) e15 f16.1 rfl rfl rfl (lenOf pd_23 rfl) rfl d30_63 (by decide) ?_
  rintro T16 v16 L16 X16 ⟨rfl, N16q, e16⟩
  have N16 := Fr.app N15 N16q
  show Go _ _ _ _ _ (mkF _ _ _ [.int 2, .ref a1])
  refine G0 X16 K d30_68 rfl rfl ?_
  refine G2 X16 K (tw H 289 rfl) Via.refl e16 O15.2.2.2.2.2.1 d30_69 ?_
  intro T17 X17 e17
  refine G48 X17 K d30_72 (z := 6) (by decide) ?_
  refine G54 X17 K (cap := 6) (vs := [.null, .null, .null, .null, .null, .null]) (ad := Q41) (by decide) (w296 H) (tw H 297 rfl) e17 d30_73 (by decide) (by decide) rfl (by decide) (by decide) (by decide) ?_
  intro T18 h18 b18 kA18 X18 e18 E18 z18 A18 O18 B18
  have ne3 : a1 ≠ bx1 := (Nat.ne_of_lt (Nat.lt_of_lt_of_le B_1.lt szbx1))
  have f17 := ((g3.other W10 (Ne.symm ne3)).other W15 (Ne.symm ne3))
  obtain ⟨sz18, ge18, Ol18, Kp18⟩ := ivE Ol15 Kp15 E18 z18
  have lk18 := Nat.lt_of_lt_of_eq f17.lt z18
  have so4 := so3.cons lk18
  have f18 := (O15.ext E18)
  refine G5 X18 K (w298 H) Via.refl e18 f18.2.2.2.2.2.2 f18.1 (Or.inr ⟨(tw H 299 rfl), rfl, rfl⟩) (w203 H) (ty := (.array (.object Q10))) (by decide) rfl rfl d30_76 ?_
  intro T19 h19 X19 e19 W19 F19
  obtain ⟨N19, Ol19, Kp19⟩ := ivW N16 Ol18 Kp18 X19 W19 ge_1 (ow 0 rfl)
  have O19 := Ω4.s5 H f18 W19
  refine G3 X19 K (v := 0) d30_79 (by decide) ?_
  refine G24 X19 K (L' := #[vr a1, vr a2, vr a3, vi 0, un, un, un, un]) d30_80 rfl ?_
  refine G0 X19 K d30_81 rfl rfl ?_
  have f19 := B_2.keep Kp19 nw_a3
  refine G20 X19 K (W := 0) (tw H 300 rfl) (tw H 301 rfl) (mvT K.z (tw H 302 rfl)) (tw H 303 rfl) (tw H 304 rfl) (tw H 305 rfl) (tw H 306 rfl) (w199 H) (w3 H) (tw H 307 rfl) (by decide) (rm41_72 H a3 a4 Ol19 f19) e19 f19.1 rfl rfl rfl (lenOf pd_25 rfl) rfl d30_82 (by decide) ?_
  rintro T20 v20 L20 X20 ⟨bx2, rfl, N20q, Kc20, lz20_0, g4⟩
  have szbx2 := Nat.le_trans Kp19.1 lz20_0
  have gebx2 := Nat.le_trans Ol19.2.1 lz20_0
  have ne4 : a1 ≠ b18 := (Nat.ne_of_lt (Nat.lt_of_lt_of_le B_1.lt sz18))
  have f20 := (A18.other W19 (Ne.symm ne4))
  have lkbx2 : b18 < bx2 := Nat.lt_of_lt_of_le f20.lt lz20_0
  have so5 := so4.cons lkbx2
  obtain ⟨N20, Ol20, Kp20⟩ := ivK N19 Ol19 Kp19 N20q Kc20 all0 all0
  show Go _ _ _ _ _ (mkF _ _ _ [.ref bx2])
  refine G26 X20 K (L' := #[vr a1, vr a2, vr a3, vi 0, vr bx2, un, un, un]) d30_87 rfl rfl ?_
  refine G7 X20 K d30_89 rfl rfl ?_
  have f21 := B_2.keep Kp20 nw_a3
  refine G20 X20 K (W := 0) (w323 H) (w324 H) (mvT K.z (w325 H)) (tw H 326 rfl) (tw H 327 rfl) (tw H 328 rfl) (tw H 329 rfl) (tw H 330 rfl) (w310 H) (tw H 331 rfl) (by decide) (rm43_73 H bx2 a3 a4 Ol20 g4 f21) rfl g4.1 rfl rfl rfl (lenOf pd_10 rfl) rfl d30_91 (by decide) ?_
  rintro T21 v21 L21 X21 ⟨rfl, N21q, e21⟩
  have N21 := Fr.app N20 N21q
  show Go _ _ _ _ _ (mkF _ _ _ [.int 1])
  refine G11 X21 K d30_96 (by decide) ?_
  refine G7 X21 K d30_99 rfl rfl ?_
  have f22 := A_1.keep Kp20 nw_a4
  have ne5 : a4 ≠ bx2 := (Nat.ne_of_lt (Nat.lt_of_lt_of_le A_1.lt szbx2))
  refine G20 X21 K (W := 0) (w335 H) (w336 H) (mvT K.z (w337 H)) (tw H 338 rfl) (tw H 339 rfl) (tw H 340 rfl) (tw H 341 rfl) (tw H 330 rfl) (w310 H) (tw H 342 rfl) (by decide) (rm44_75 H bx2 a3 a4 a5 a6 k1 Ol20 g4 f21 f22 gebx2 ne5) e21 g4.1 rfl rfl rfl (lenOf pd_26 rfl) rfl d30_101 (by decide) ?_
  rintro T22 v22 L22 X22 ⟨rfl, N22q, Kc22, g5⟩
  obtain ⟨N22, Ol22, Kp22⟩ := ivK N21 Ol20 Kp20 N22q Kc22 (allS gebx2 all0) (kaS (Or.inr szbx2) all0)
  show Go _ _ _ _ _ (mkF _ _ _ [.ref a5])
  have f23 := B_4.keep Kp22 nw_a5
  refine G47 X22 K (tw H 273 rfl) rfl (Ins.self f23.1) d30_106 ?_
  intro T23 X23 e23
  refine G26 X23 K (L' := #[vr a1, vr a2, vr a3, vi 0, vr bx2, vr a5, un, un]) d30_109 rfl rfl ?_
  refine G7 X23 K d30_111 rfl rfl ?_
  refine G8 X23 K (W := 0) (tw H 275 rfl) (tw H 276 rfl) (nf_self K (w278 H)) (w278 H) (tw H 277 rfl) (w91 H) (tw H 279 rfl) (by decide) (rm38_68 H a5 a9 a10 Ol22 f23) e23 f23.1 rfl rfl rfl (lenOf pd_22 rfl) rfl d30_113 (by decide) ?_
  rintro T24 v24 L24 X24 ⟨rfl, N24q, e24⟩
  have N24 := Fr.app N22 N24q
  show Go _ _ _ _ _ (mkF _ _ _ [.ref a10])
  have f24 := B_5.keep Kp22 nw_a10
  have f25 := A_2.keep Kp22 nw_a11
  refine G20 X24 K (W := 0) (tw H 300 rfl) (tw H 301 rfl) (mvT K.z (tw H 302 rfl)) (tw H 349 rfl) (tw H 350 rfl) (tw H 351 rfl) (tw H 352 rfl) (w287 H) (tw H 175 rfl) (tw H 353 rfl) (by decide) (rm46_77 H a10 a11 a12 a13 a14 k2 Ol22 f24 f25) e24 f24.1 rfl rfl rfl (lenOf pd_25 rfl) rfl d30_116 (by decide) ?_
  rintro T25 v25 L25 X25 ⟨bx3, rfl, N25q, Kc25, lz25_0, g6⟩
  have szbx3 := Nat.le_trans Kp22.1 lz25_0
  have gebx3 := Nat.le_trans Ol22.2.1 lz25_0
  have lkbx3 : bx2 < bx3 := Nat.lt_of_lt_of_le g5.lt lz25_0
  have so6 := so5.cons lkbx3
  obtain ⟨N25, Ol25, Kp25⟩ := ivK N24 Ol22 Kp22 N25q Kc25 all0 all0
  show Go _ _ _ _ _ (mkF _ _ _ [.ref bx3])
  refine G26 X25 K (L' := #[vr a1, vr a2, vr a3, vi 0, vr bx2, vr a5, vr bx3, un]) d30_121 rfl rfl ?_
  refine G7 X25 K d30_123 rfl rfl ?_
  refine G20 X25 K (W := 0) (w323 H) (w324 H) (mvT K.z (w325 H)) (w374 H) (w375 H) (w376 H) (w377 H) (w378 H) (w356 H) (w379 H) (by decide) (rm48_78 H bx3 a10 Ol25 g6) rfl g6.1 rfl rfl rfl (lenOf pd_10 rfl) rfl d30_125 (by decide) ?_
  rintro T26 v26 L26 X26 ⟨rfl, N26q, e26⟩
  have N26 := Fr.app N25 N26q
  show Go _ _ _ _ _ (mkF _ _ _ [.int 1])
  refine G11 X26 K d30_130 (by decide) ?_
  refine G7 X26 K d30_133 rfl rfl ?_
  have f26 := B_5.keep Kp25 nw_a10
  have f27 := A_2.keep Kp25 nw_a11
  refine G59 X26 K (W := 0) (w335 H) (w336 H) (mvT K.z (w337 H)) (w380 H) (w381 H) (w382 H) (w383 H) (w378 H) (w356 H) (w384 H) (by decide) (rm49_80 l H bx3 a10 a11 a12 a13 a14 k2 T25.heap Ol25 g6 f26 f27 gebx3) e26 g6.1 rfl rfl rfl (lenOf pd_26 rfl) rfl d30_135 (by decide) ?_
  rintro T27 v27 L27 X27 ⟨rfl, N27q, Kc27, g7⟩
  obtain ⟨N27, Ol27, Kp27⟩ := ivK N26 Ol25 Kp25 N27q Kc27 (allS gebx3 all0) (kaS (Or.inr szbx3) all0)
  show Go _ _ _ _ _ (mkF _ _ _ [.ref a12])
  have kb1 := Keep.cat (Keep.ofE E2) Kc3 [b2] [] [0] rfl rfl
  have kb2 := Keep.cat (Keep.of_wr W4) (Keep.ofE E5) [a1] [0] [] rfl rfl
  have kb3 := Keep.cat kb1 kb2 [b2, a1] [0] [1] rfl rfl
  have kb4 := Keep.cat Kc6 (Keep.of_wr W7) [b5, a1] [0] [1] rfl rfl
  have kb5 := Keep.cat (Keep.of_wr W8) Kc9 [a1] [0] [] rfl rfl
  have kb6 := Keep.cat kb4 kb5 [b5, a1] [0, 1] [1] rfl rfl
  have kb7 := Keep.cat kb3 kb6 [b2, a1, b5] [0, 1] [2, 1] rfl rfl
  have kb8 := Keep.cat (Keep.of_wr W10) (Keep.of_wr W15) [a1] [0] [0] rfl rfl
  have kb9 := Keep.cat (Keep.ofE E18) (Keep.of_wr W19) [a1] [] [0] rfl rfl
  have kb10 := Keep.cat kb8 kb9 [a1] [0] [0] rfl rfl
  have kb11 := Keep.cat Kc20 Kc22 [bx2] [] [0] rfl rfl
  have kb12 := Keep.cat Kc25 Kc27 [bx3] [] [0] rfl rfl
  have kb13 := Keep.cat kb11 kb12 [bx2, bx3] [0] [1] rfl rfl
  have kb14 := Keep.cat kb10 kb13 [a1, bx2, bx3] [0] [1, 2] rfl rfl
  have kb15 := Keep.cat kb7 kb14 [b2, a1, b5, bx2, bx3] [0, 1, 2] [1, 3, 4] rfl rfl
  have ne6 : a12 ≠ bx3 := (Nat.ne_of_lt (Nat.lt_of_lt_of_le B_6.lt szbx3))
  have ne7 : a12 ≠ bx2 := (Nat.ne_of_lt (Nat.lt_of_lt_of_le B_6.lt szbx2))
  have ne8 : a12 ≠ b5 := (Nat.ne_of_lt (Nat.lt_of_lt_of_le B_6.lt sz5))
  have ne9 : a12 ≠ b2 := (Nat.ne_of_lt (Nat.lt_of_lt_of_le B_6.lt sz2))
  have f28 := (B_6.keep kb15 (ninS ne9 (ninS ne_1 (ninS ne8 (ninS ne7 (ninS ne6 nin0))))))
  refine G47 X27 K (w296 H) rfl (Ins.self f28.1) d30_140 ?_
  intro T28 X28 e28
  refine G26 X28 K (L' := #[vr a1, vr a2, vr a3, vi 0, vr bx2, vr a5, vr bx3, vr a12]) d30_143 rfl rfl ?_
  refine G0 X28 K d30_145 rfl rfl ?_
  have ne10 : a1 ≠ bx3 := (Nat.ne_of_lt (Nat.lt_of_lt_of_le B_1.lt szbx3))
  have ne11 : a1 ≠ bx2 := (Nat.ne_of_lt (Nat.lt_of_lt_of_le B_1.lt szbx2))
  have f29 := (O19.keep kb13 (ninS ne11 (ninS ne10 nin0)))
  refine G2 X28 K (w298 H) Via.refl e28 f29.2.2.2.2.2.2 d30_146 ?_
  intro T29 X29 e29
  refine G1 X29 K d30_149 rfl ?_
  refine G7 X29 K d30_150 rfl rfl ?_
  have f30 := (f20.keep kb13 (so6.nin 2 [1, 0] rfl rfl rfl))
  refine G32 X29 K (vs' := [.ref a12, .null, .null, .null, .null, .null]) e29 f30 (Or.inr ⟨_, rfl, O18, (Ins.self f28.1)⟩) (by decide) (Nat.le_of_ble_eq_true rfl) rfl d30_152 ?_
  intro T30 h30 X30 e30 W30 F30
  obtain ⟨N30, Ol30, Kp30⟩ := ivW N27 Ol27 Kp27 X30 W30 ge18 (Or.inr sz18)
  refine G0 X30 K d30_153 rfl rfl ?_
  have f31 := (f29.other W30 ne4)
  refine G2 X30 K (w226 H) Via.refl e30 f31.2.1 d30_154 ?_
  intro T31 X31 e31
  refine G7 X31 K d30_157 rfl rfl ?_
  refine G1 X31 K d30_159 rfl ?_
  refine G14 X31 K (W := 2) (w391 H) (w392 H) (w393 H) (w394 H) (by decide) (rm51_81 H Ol30) e31 rfl rfl rfl (lenOf pd_28 rfl) rfl d30_160 (by decide) ?_
  rintro T32 v32 L32 X32 ⟨rfl, N32q, e32⟩
  have N32 := Fr.app N30 N32q
  show Go _ _ _ _ _ (mkF _ _ _ [(.ref (el0 Z a0 128)), .ref a12, .ref b2])
  have ne12 : a12 ≠ b18 := (Nat.ne_of_lt (Nat.lt_of_lt_of_le B_6.lt sz18))
  have f32 := (f28.other W30 ne12)
  have f33 := A_3.keep Kp30 nw_a15
  have ne13 := so6.ne 5 4 rfl rfl rfl
  have ne14 := so6.ne 5 0 rfl rfl rfl
  have ne15 := so6.ne 5 1 rfl rfl rfl
  have ne16 := so6.ne 5 2 rfl rfl rfl
  have f34 := ((((f2.ext E5).keep kb6 (ninS ne13 (ninS (Ne.symm ne1) nin0))).keep kb14 (ninS (Ne.symm ne1) (ninS ne15 (ninS ne14 nin0)))).other W30 ne16)
  refine G20 X32 K (W := 0) (w398 H) (w399 H) (mvT K.z (w400 H)) (w401 H) (w402 H) (w403 H) (w404 H) (w405 H) (w212 H) (w406 H) (by decide) (rm52_91 H b2 a12 a15 k3 Ol30 f32 f33 ge_2 f34 (Ne.symm ne9) ge2 ne9) e32 f34.1 rfl rfl rfl (lenOf pd_36 rfl) rfl d30_163 (by decide) ?_
  rintro T33 v33 L33 X33 ⟨bx4, bx5, kB1, rfl, N33q, Kc33, lz33_0, lz33_1, g8, g9, g10, g11, g12, g13⟩
  have szbx4 := Nat.le_trans Kp30.1 lz33_0
  have gebx4 := Nat.le_trans Ol30.2.1 lz33_0
  have ne17 := so6.ne 0 2 rfl rfl rfl
  have f35 := (g7.other W30 ne17)
  have lkbx4 : bx3 < bx4 := Nat.lt_of_lt_of_le f35.lt lz33_0
  have so7 := so6.cons lkbx4
  have szbx5 := Nat.le_trans szbx4 (Nat.le_of_lt lz33_1)
  have gebx5 := Nat.le_trans gebx4 (Nat.le_of_lt lz33_1)
  have so8 := so7.cons lz33_1
  obtain ⟨N33, Ol33, Kp33⟩ := ivK N32 Ol30 Kp30 N33q Kc33 (allS ge_2 (allS ge2 all0)) (kaS (ow 1 rfl) (kaS (Or.inr sz2) all0))
  show Go _ _ _ _ _ (mkF _ _ _ [.null])
  refine G37 X33 K d30_168 rfl ?_
  refine G22 X33 K (z := 1) (L' := #[vr a1, vr a2, vr a3, vi 1, vr bx2, vr a5, vr bx3, vr a12]) d30_169 rfl (by decide) rfl ?_
  refine G6 123 X33 K d30_172 (by decide) (by decide) ?_
  refine G7 X33 K d30_123 rfl rfl ?_
  have f36 := (f35.keep Kc33 (ninS (Ne.symm ne6) (ninS (Ne.symm ne14) nin0)))
  refine G20 X33 K (W := 0) (w323 H) (w324 H) (mvT K.z (w325 H)) (w374 H) (w375 H) (w376 H) (w377 H) (w378 H) (w356 H) (w379 H) (by decide) (rm48_92 H bx3 a10 Ol33 f36) rfl f36.1 rfl rfl rfl (lenOf pd_10 rfl) rfl d30_125 (by decide) ?_
  rintro T34 v34 L34 X34 ⟨rfl, N34q, e34⟩
  have N34 := Fr.app N33 N34q
  show Go _ _ _ _ _ (mkF _ _ _ [.int 1])
  refine G11 X34 K d30_130 (by decide) ?_
  refine G7 X34 K d30_133 rfl rfl ?_
  have f37 := B_5.keep Kp33 nw_a10
  have f38 := A_2.keep Kp33 nw_a11
  refine G59 X34 K (W := 0) (w335 H) (w336 H) (mvT K.z (w337 H)) (w380 H) (w381 H) (w382 H) (w383 H) (w378 H) (w356 H) (w384 H) (by decide) (rm49_94 l H bx3 a10 a11 a12 a13 a14 k2 T33.heap Ol33 f36 f37 f38 gebx3) e34 f36.1 rfl rfl rfl (lenOf pd_26 rfl) rfl d30_135 (by decide) ?_
  rintro T35 v35 L35 X35 ⟨rfl, N35q, Kc35, g14⟩
  obtain ⟨N35, Ol35, Kp35⟩ := ivK N34 Ol33 Kp33 N35q Kc35 (allS gebx3 all0) (kaS (Or.inr szbx3) all0)
  show Go _ _ _ _ _ (mkF _ _ _ [.ref a13])
  have ne18 : a13 ≠ bx3 := (Nat.ne_of_lt (Nat.lt_of_lt_of_le B_7.lt szbx3))
  have ne19 : a13 ≠ bx2 := (Nat.ne_of_lt (Nat.lt_of_lt_of_le B_7.lt szbx2))
  have ne20 : a13 ≠ b5 := (Nat.ne_of_lt (Nat.lt_of_lt_of_le B_7.lt sz5))
  have ne21 : a13 ≠ b2 := (Nat.ne_of_lt (Nat.lt_of_lt_of_le B_7.lt sz2))
  have ne22 : a13 ≠ b18 := (Nat.ne_of_lt (Nat.lt_of_lt_of_le B_7.lt sz18))
  have f39 := ((((B_7.keep kb15 (ninS ne21 (ninS ne_2 (ninS ne20 (ninS ne19 (ninS ne18 nin0)))))).other W30 ne22).keep Kc33 (ninS ne_3 (ninS ne21 nin0))).keep Kc35 (ninS ne18 nin0))
  refine G47 X35 K (w296 H) rfl (Ins.self f39.1) d30_140 ?_
  intro T36 X36 e36
  refine G26 X36 K (L' := #[vr a1, vr a2, vr a3, vi 1, vr bx2, vr a5, vr bx3, vr a13]) d30_143 rfl rfl ?_
  refine G0 X36 K d30_145 rfl rfl ?_
  have f40 := ((f31.keep Kc33 (ninS ne_4 (ninS ne1 nin0))).keep Kc35 (ninS ne10 nin0))
  refine G2 X36 K (w298 H) Via.refl e36 f40.2.2.2.2.2.2 d30_146 ?_
  intro T37 X37 e37
  refine G1 X37 K d30_149 rfl ?_
  refine G7 X37 K d30_150 rfl rfl ?_
  have f41 := ((F30.keep Kc33 (ninS (Ne.symm ne12) (ninS (Ne.symm ne16) nin0))).keep Kc35 (so8.nin 4 [2] rfl rfl rfl))
  refine G32 X37 K (vs' := [.ref a12, .ref a13, .null, .null, .null, .null]) e37 f41 (Or.inr ⟨_, rfl, O18, (Ins.self f39.1)⟩) (by decide) (Nat.le_of_ble_eq_true rfl) rfl d30_152 ?_
  intro T38 h38 X38 e38 W38 F38
  obtain ⟨N38, Ol38, Kp38⟩ := ivW N35 Ol35 Kp35 X38 W38 ge18 (Or.inr sz18)
  refine G0 X38 K d30_153 rfl rfl ?_
  have f42 := (f40.other W38 ne4)
  refine G2 X38 K (w226 H) Via.refl e38 f42.2.1 d30_154 ?_
  intro T39 X39 e39
  refine G7 X39 K d30_157 rfl rfl ?_
  refine G1 X39 K d30_159 rfl ?_
  refine G14 X39 K (W := 2) (w391 H) (w392 H) (w393 H) (w394 H) (by decide) (rm51_95 H Ol38) e39 rfl rfl rfl (lenOf pd_28 rfl) rfl d30_160 (by decide) ?_
  rintro T40 v40 L40 X40 ⟨rfl, N40q, e40⟩
  have N40 := Fr.app N38 N40q
  show Go _ _ _ _ _ (mkF _ _ _ [(.ref (el0 Z a0 129)), .ref a13, .ref b2])
  have f43 := (f39.other W38 ne22)
  have f44 := A_4.keep Kp38 nw_a16
  have f45 := ((g9.keep Kc35 (so8.nin 7 [2] rfl rfl rfl)).other W38 ne16)
  have ne23 := so8.ne 1 4 rfl rfl rfl
  have f46 := ((g10.keep Kc35 (so8.nin 1 [2] rfl rfl rfl)).other W38 ne23)
  have ne24 : a13 ≠ bx4 := (Nat.ne_of_lt (Nat.lt_of_lt_of_le B_7.lt szbx4))
  have ne25 := so8.ne 7 1 rfl rfl rfl
  refine G20 X40 K (W := 0) (w398 H) (w399 H) (mvT K.z (w400 H)) (w401 H) (w402 H) (w403 H) (w404 H) (w405 H) (w212 H) (w406 H) (by decide) (rm52_102 H b2 a13 a16 k4 bx4 bx5 kB1 Ol38 f43 f44 ge_3 f45 f46 (Ne.symm ne21) (Ne.symm ne24) g12 gebx4 ne25 ge2 (Ne.symm ne25) ne21 ne24) e40 f45.1 rfl rfl rfl (lenOf pd_36 rfl) rfl d30_163 (by decide) ?_
  rintro T41 v41 L41 X41 ⟨bx6, rfl, N41q, Kc41, lz41_0, g15, g16, g17, g18⟩
  have szbx6 := Nat.le_trans Kp38.1 lz41_0
  have gebx6 := Nat.le_trans Ol38.2.1 lz41_0
  have ne26 := so8.ne 0 4 rfl rfl rfl
  have f47 := ((g13.keep Kc35 (so8.nin 0 [2] rfl rfl rfl)).other W38 ne26)
  have lkbx6 : bx5 < bx6 := Nat.lt_of_lt_of_le f47.lt lz41_0
  have so9 := so8.cons lkbx6
  obtain ⟨N41, Ol41, Kp41⟩ := ivK N40 Ol38 Kp38 N41q Kc41 (allS ge_3 (allS gebx4 (allS ge2 all0))) (kaS (ow 2 rfl) (kaS (Or.inr szbx4) (kaS (Or.inr sz2) all0)))
  show Go _ _ _ _ _ (mkF _ _ _ [.null])
  refine G37 X41 K d30_168 rfl ?_
  refine G22 X41 K (z := 2) (L' := #[vr a1, vr a2, vr a3, vi 2, vr bx2, vr a5, vr bx3, vr a13]) d30_169 rfl (by decide) rfl ?_
  refine G6 123 X41 K d30_172 (by decide) (by decide) ?_
  refine G7 X41 K d30_123 rfl rfl ?_
  have ne27 := so9.ne 3 2 rfl rfl rfl
  have f48 := ((g14.other W38 ne17).keep Kc41 (ninS (Ne.symm ne18) (ninS ne27 (ninS (Ne.symm ne14) nin0))))
  refine G20 X41 K (W := 0) (w323 H) (w324 H) (mvT K.z (w325 H)) (w374 H) (w375 H) (w376 H) (w377 H) (w378 H) (w356 H) (w379 H) (by decide) (rm48_103 H bx3 a10 Ol41 f48) rfl f48.1 rfl rfl rfl (lenOf pd_10 rfl) rfl d30_125 (by decide) ?_
  rintro T42 v42 L42 X42 ⟨rfl, N42q, e42⟩
  have N42 := Fr.app N41 N42q
  show Go _ _ _ _ _ (mkF _ _ _ [.int 1])
  refine G11 X42 K d30_130 (by decide) ?_
  refine G7 X42 K d30_133 rfl rfl ?_
  have f49 := B_5.keep Kp41 nw_a10
  have f50 := A_2.keep Kp41 nw_a11
  refine G59 X42 K (W := 0) (w335 H) (w336 H) (mvT K.z (w337 H)) (w380 H) (w381 H) (w382 H) (w383 H) (w378 H) (w356 H) (w384 H) (by decide) (rm49_105 l H bx3 a10 a11 a12 a13 a14 k2 T41.heap Ol41 f48 f49 f50 gebx3) e42 f48.1 rfl rfl rfl (lenOf pd_26 rfl) rfl d30_135 (by decide) ?_
  rintro T43 v43 L43 X43 ⟨rfl, N43q, Kc43, g19⟩
  obtain ⟨N43, Ol43, Kp43⟩ := ivK N42 Ol41 Kp41 N43q Kc43 (allS gebx3 all0) (kaS (Or.inr szbx3) all0)
  show Go _ _ _ _ _ (mkF _ _ _ [.ref a14])
  have ne28 : a14 ≠ bx3 := (Nat.ne_of_lt (Nat.lt_of_lt_of_le B_8.lt szbx3))
  have ne29 : a14 ≠ bx2 := (Nat.ne_of_lt (Nat.lt_of_lt_of_le B_8.lt szbx2))
  have ne30 : a14 ≠ b5 := (Nat.ne_of_lt (Nat.lt_of_lt_of_le B_8.lt sz5))
  have ne31 : a14 ≠ b2 := (Nat.ne_of_lt (Nat.lt_of_lt_of_le B_8.lt sz2))
  have kb16 := Keep.cat (Keep.of_wr W30) Kc33 [b18, a12, b2] [0] [1, 2] rfl rfl
  have kb17 := Keep.cat Kc35 (Keep.of_wr W38) [bx3, b18] [0] [1] rfl rfl
  have kb18 := Keep.cat kb16 kb17 [b18, a12, b2, bx3] [0, 1, 2] [3, 0] rfl rfl
  have ne32 : a14 ≠ b18 := (Nat.ne_of_lt (Nat.lt_of_lt_of_le B_8.lt sz18))
  have ne33 : a14 ≠ bx4 := (Nat.ne_of_lt (Nat.lt_of_lt_of_le B_8.lt szbx4))
  have f51 := ((((B_8.keep kb15 (ninS ne31 (ninS ne_5 (ninS ne30 (ninS ne29 (ninS ne28 nin0)))))).keep kb18 (ninS ne32 (ninS ne_6 (ninS ne31 (ninS ne28 nin0))))).keep Kc41 (ninS ne_7 (ninS ne33 (ninS ne31 nin0)))).keep Kc43 (ninS ne28 nin0))
  refine G47 X43 K (w296 H) rfl (Ins.self f51.1) d30_140 ?_
  intro T44 X44 e44
  refine G26 X44 K (L' := #[vr a1, vr a2, vr a3, vi 2, vr bx2, vr a5, vr bx3, vr a14]) d30_143 rfl rfl ?_
  refine G0 X44 K d30_145 rfl rfl ?_
  have ne34 : a1 ≠ bx4 := (Nat.ne_of_lt (Nat.lt_of_lt_of_le B_1.lt szbx4))
  have f52 := ((f42.keep Kc41 (ninS ne_8 (ninS ne34 (ninS ne1 nin0)))).keep Kc43 (ninS ne10 nin0))
  refine G2 X44 K (w298 H) Via.refl e44 f52.2.2.2.2.2.2 d30_146 ?_
  intro T45 X45 e45
  refine G1 X45 K d30_149 rfl ?_
  refine G7 X45 K d30_150 rfl rfl ?_
  have f53 := ((F38.keep Kc41 (ninS (Ne.symm ne22) (ninS (Ne.symm ne23) (ninS (Ne.symm ne16) nin0)))).keep Kc43 (so9.nin 5 [3] rfl rfl rfl))
  refine G32 X45 K (vs' := [.ref a12, .ref a13, .ref a14, .null, .null, .null]) e45 f53 (Or.inr ⟨_, rfl, O18, (Ins.self f51.1)⟩) (by decide) (Nat.le_of_ble_eq_true rfl) rfl d30_152 ?_
  intro T46 h46 X46 e46 W46 F46
  obtain ⟨N46, Ol46, Kp46⟩ := ivW N43 Ol43 Kp43 X46 W46 ge18 (Or.inr sz18)
  refine G0 X46 K d30_153 rfl rfl ?_
  have f54 := (f52.other W46 ne4)
  refine G2 X46 K (w226 H) Via.refl e46 f54.2.1 d30_154 ?_
  intro T47 X47 e47
  refine G7 X47 K d30_157 rfl rfl ?_
  refine G1 X47 K d30_159 rfl ?_
  refine G14 X47 K (W := 2) (w391 H) (w392 H) (w393 H) (w394 H) (by decide) (rm51_106 H Ol46) e47 rfl rfl rfl (lenOf pd_28 rfl) rfl d30_160 (by decide) ?_
  rintro T48 v48 L48 X48 ⟨rfl, N48q, e48⟩
  have N48 := Fr.app N46 N48q
  show Go _ _ _ _ _ (mkF _ _ _ [(.ref (el0 Z a0 130)), .ref a14, .ref b2])
  have f55 := (f51.other W46 ne32)
  have f56 := A_5.keep Kp46 nw_a17
  have f57 := ((g17.keep Kc43 (so9.nin 8 [3] rfl rfl rfl)).other W46 ne16)
  have f58 := ((g16.keep Kc43 (so9.nin 2 [3] rfl rfl rfl)).other W46 ne23)
  refine G20 X48 K (W := 0) (w398 H) (w399 H) (mvT K.z (w400 H)) (w401 H) (w402 H) (w403 H) (w404 H) (w405 H) (w212 H) (w406 H) (by decide) (rm52_113 H b2 a14 a17 k5 bx4 bx5 bx6 kB1 Ol46 f55 f56 ge_4 f57 f58 (Ne.symm ne31) (Ne.symm ne33) g12 gebx4 ne25 ge2 (Ne.symm ne25) ne31 ne33) e48 f57.1 rfl rfl rfl (lenOf pd_36 rfl) rfl d30_163 (by decide) ?_
  rintro T49 v49 L49 X49 ⟨bx7, rfl, N49q, Kc49, lz49_0, g20, g21, g22, g23⟩
  have szbx7 := Nat.le_trans Kp46.1 lz49_0
  have gebx7 := Nat.le_trans Ol46.2.1 lz49_0
  have ne35 := so9.ne 0 5 rfl rfl rfl
  have f59 := ((g18.keep Kc43 (so9.nin 0 [3] rfl rfl rfl)).other W46 ne35)
  have lkbx7 : bx6 < bx7 := Nat.lt_of_lt_of_le f59.lt lz49_0
  have so10 := so9.cons lkbx7
  obtain ⟨N49, Ol49, Kp49⟩ := ivK N48 Ol46 Kp46 N49q Kc49 (allS ge_4 (allS gebx4 (allS ge2 all0))) (kaS (ow 3 rfl) (kaS (Or.inr szbx4) (kaS (Or.inr sz2) all0)))
  show Go _ _ _ _ _ (mkF _ _ _ [.null])
  refine G37 X49 K d30_168 rfl ?_
  refine G22 X49 K (z := 3) (L' := #[vr a1, vr a2, vr a3, vi 3, vr bx2, vr a5, vr bx3, vr a14]) d30_169 rfl (by decide) rfl ?_
  refine G6 123 X49 K d30_172 (by decide) (by decide) ?_
  refine G7 X49 K d30_123 rfl rfl ?_
  have f60 := ((g19.other W46 ne17).keep Kc49 (ninS (Ne.symm ne28) (ninS ne27 (ninS (Ne.symm ne14) nin0))))
  refine G20 X49 K (W := 0) (w323 H) (w324 H) (mvT K.z (w325 H)) (w374 H) (w375 H) (w376 H) (w377 H) (w378 H) (w356 H) (w379 H) (by decide) (rm48_114 H bx3 a10 Ol49 f60) rfl f60.1 rfl rfl rfl (lenOf pd_10 rfl) rfl d30_125 (by decide) ?_
  rintro T50 v50 L50 X50 ⟨rfl, N50q, e50⟩
  have N50 := Fr.app N49 N50q
  show Go _ _ _ _ _ (mkF _ _ _ [.int 0])
  refine G15 175 X50 K d30_130 (by decide) (by decide) (by decide) ?_
  refine G6 89 X50 K d30_175 (by decide) (by decide) ?_
  refine G7 X50 K d30_89 rfl rfl ?_
  have kb19 := Keep.cat Kc41 Kc43 [a13, bx4, b2, bx3] [0, 1, 2] [3] rfl rfl
  have kb20 := Keep.cat (Keep.of_wr W46) Kc49 [b18, a14, bx4, b2] [0] [1, 2, 3] rfl rfl
  have kb21 := Keep.cat kb19 kb20 [a13, bx4, b2, bx3, b18, a14] [0, 1, 2, 3] [4, 5, 1, 2] rfl rfl
  have kb22 := Keep.cat kb18 kb21 [b18, a12, b2, bx3, a13, bx4, a14] [0, 1, 2, 3] [4, 5, 2, 3, 0, 6] rfl rfl
  have ne36 := so10.ne 5 3 rfl rfl rfl
  have ne37 := so10.ne 5 4 rfl rfl rfl
  have ne38 := so10.ne 5 6 rfl rfl rfl
  have f61 := (((g5.keep Kc25 nin0).keep Kc27 (so10.nin 5 [4] rfl rfl rfl)).keep kb22 (ninS ne38 (ninS (Ne.symm ne7) (ninS (Ne.symm ne15) (ninS ne37 (ninS (Ne.symm ne19) (ninS ne36 (ninS (Ne.symm ne29) nin0))))))))
  have f62 := B_2.keep Kp49 nw_a3
  refine G20 X50 K (W := 0) (w323 H) (w324 H) (mvT K.z (w325 H)) (tw H 326 rfl) (tw H 327 rfl) (tw H 328 rfl) (tw H 329 rfl) (tw H 330 rfl) (w310 H) (tw H 331 rfl) (by decide) (rm43_115 H bx2 a3 a4 Ol49 f61 f62) e50 f61.1 rfl rfl rfl (lenOf pd_10 rfl) rfl d30_91 (by decide) ?_
  rintro T51 v51 L51 X51 ⟨rfl, N51q, e51⟩
  have N51 := Fr.app N50 N51q
  show Go _ _ _ _ _ (mkF _ _ _ [.int 1])
  refine G11 X51 K d30_96 (by decide) ?_
  refine G7 X51 K d30_99 rfl rfl ?_
  have f63 := A_1.keep Kp49 nw_a4
  refine G20 X51 K (W := 0) (w335 H) (w336 H) (mvT K.z (w337 H)) (tw H 338 rfl) (tw H 339 rfl) (tw H 340 rfl) (tw H 341 rfl) (tw H 330 rfl) (w310 H) (tw H 342 rfl) (by decide) (rm44_117 H bx2 a3 a4 a5 a6 k1 Ol49 f61 f62 f63 gebx2 ne5) e51 f61.1 rfl rfl rfl (lenOf pd_26 rfl) rfl d30_101 (by decide) ?_
  rintro T52 v52 L52 X52 ⟨rfl, N52q, Kc52, g24⟩
  obtain ⟨N52, Ol52, Kp52⟩ := ivK N51 Ol49 Kp49 N52q Kc52 (allS gebx2 all0) (kaS (Or.inr szbx2) all0)
  show Go _ _ _ _ _ (mkF _ _ _ [.ref a6])
  have f64 := B_3.keep Kp52 nw_a6
  refine G47 X52 K (tw H 273 rfl) rfl (Ins.self f64.1) d30_106 ?_
  intro T53 X53 e53
  refine G26 X53 K (L' := #[vr a1, vr a2, vr a3, vi 3, vr bx2, vr a6, vr bx3, vr a14]) d30_109 rfl rfl ?_
  refine G7 X53 K d30_111 rfl rfl ?_
  refine G8 X53 K (W := 0) (tw H 275 rfl) (tw H 276 rfl) (nf_self K (w278 H)) (w278 H) (tw H 277 rfl) (w91 H) (tw H 279 rfl) (by decide) (rm38_68 H a6 a7 a8 Ol52 f64) e53 f64.1 rfl rfl rfl (lenOf pd_22 rfl) rfl d30_113 (by decide) ?_
  rintro T54 v54 L54 X54 ⟨rfl, N54q, e54⟩
  have N54 := Fr.app N52 N54q
  show Go _ _ _ _ _ (mkF _ _ _ [.ref a8])
  have f65 := B_9.keep Kp52 nw_a8
  have f66 := A_6.keep Kp52 nw_a18
  refine G20 X54 K (W := 0) (tw H 300 rfl) (tw H 301 rfl) (mvT K.z (tw H 302 rfl)) (tw H 349 rfl) (tw H 350 rfl) (tw H 351 rfl) (tw H 352 rfl) (w287 H) (tw H 175 rfl) (tw H 353 rfl) (by decide) (rm46_77 H a8 a18 a19 a20 a21 k6 Ol52 f65 f66) e54 f65.1 rfl rfl rfl (lenOf pd_25 rfl) rfl d30_116 (by decide) ?_
  rintro T55 v55 L55 X55 ⟨bx8, rfl, N55q, Kc55, lz55_0, g25⟩
  have szbx8 := Nat.le_trans Kp52.1 lz55_0
  have gebx8 := Nat.le_trans Ol52.2.1 lz55_0
  have f67 := (g23.keep Kc52 (so10.nin 0 [5] rfl rfl rfl))
  have lkbx8 : bx7 < bx8 := Nat.lt_of_lt_of_le f67.lt lz55_0
  have so11 := so10.cons lkbx8
  obtain ⟨N55, Ol55, Kp55⟩ := ivK N54 Ol52 Kp52 N55q Kc55 all0 all0
  show Go _ _ _ _ _ (mkF _ _ _ [.ref bx8])
  refine G26 X55 K (L' := #[vr a1, vr a2, vr a3, vi 3, vr bx2, vr a6, vr bx8, vr a14]) d30_121 rfl rfl ?_
  refine G7 X55 K d30_123 rfl rfl ?_
  refine G20 X55 K (W := 0) (w323 H) (w324 H) (mvT K.z (w325 H)) (w374 H) (w375 H) (w376 H) (w377 H) (w378 H) (w356 H) (w379 H) (by decide) (rm48_78 H bx8 a8 Ol55 g25) rfl g25.1 rfl rfl rfl (lenOf pd_10 rfl) rfl d30_125 (by decide) ?_
  rintro T56 v56 L56 X56 ⟨rfl, N56q, e56⟩
  have N56 := Fr.app N55 N56q
  show Go _ _ _ _ _ (mkF _ _ _ [.int 1])
  refine G11 X56 K d30_130 (by decide) ?_
  refine G7 X56 K d30_133 rfl rfl ?_
  have f68 := B_9.keep Kp55 nw_a8
  have f69 := A_6.keep Kp55 nw_a18
  refine G59 X56 K (W := 0) (w335 H) (w336 H) (mvT K.z (w337 H)) (w380 H) (w381 H) (w382 H) (w383 H) (w378 H) (w356 H) (w384 H) (by decide) (rm49_80 l H bx8 a8 a18 a19 a20 a21 k6 T55.heap Ol55 g25 f68 f69 gebx8) e56 g25.1 rfl rfl rfl (lenOf pd_26 rfl) rfl d30_135 (by decide) ?_
  rintro T57 v57 L57 X57 ⟨rfl, N57q, Kc57, g26⟩
  obtain ⟨N57, Ol57, Kp57⟩ := ivK N56 Ol55 Kp55 N57q Kc57 (allS gebx8 all0) (kaS (Or.inr szbx8) all0)
  show Go _ _ _ _ _ (mkF _ _ _ [.ref a19])
  have ne39 : a19 ≠ bx3 := (Nat.ne_of_lt (Nat.lt_of_lt_of_le B_10.lt szbx3))
  have ne40 : a19 ≠ bx2 := (Nat.ne_of_lt (Nat.lt_of_lt_of_le B_10.lt szbx2))
  have ne41 : a19 ≠ b5 := (Nat.ne_of_lt (Nat.lt_of_lt_of_le B_10.lt sz5))
  have ne42 : a19 ≠ b2 := (Nat.ne_of_lt (Nat.lt_of_lt_of_le B_10.lt sz2))
  have ne43 : a19 ≠ bx4 := (Nat.ne_of_lt (Nat.lt_of_lt_of_le B_10.lt szbx4))
  have ne44 : a19 ≠ b18 := (Nat.ne_of_lt (Nat.lt_of_lt_of_le B_10.lt sz18))
  have ne45 : a19 ≠ bx8 := (Nat.ne_of_lt (Nat.lt_of_lt_of_le B_10.lt szbx8))
  have f70 := (((((B_10.keep kb15 (ninS ne42 (ninS ne_9 (ninS ne41 (ninS ne40 (ninS ne39 nin0)))))).keep kb22 (ninS ne44 (ninS ne_12 (ninS ne42 (ninS ne39 (ninS ne_11 (ninS ne43 (ninS ne_10 nin0)))))))).keep Kc52 (ninS ne40 nin0)).keep Kc55 nin0).keep Kc57 (ninS ne45 nin0))
  refine G47 X57 K (w296 H) rfl (Ins.self f70.1) d30_140 ?_
  intro T58 X58 e58
  refine G26 X58 K (L' := #[vr a1, vr a2, vr a3, vi 3, vr bx2, vr a6, vr bx8, vr a19]) d30_143 rfl rfl ?_
  refine G0 X58 K d30_145 rfl rfl ?_
  have ne46 : a1 ≠ bx8 := (Nat.ne_of_lt (Nat.lt_of_lt_of_le B_1.lt szbx8))
  have f71 := ((((f54.keep Kc49 (ninS ne_13 (ninS ne34 (ninS ne1 nin0)))).keep Kc52 (ninS ne11 nin0)).keep Kc55 nin0).keep Kc57 (ninS ne46 nin0))
  refine G2 X58 K (w298 H) Via.refl e58 f71.2.2.2.2.2.2 d30_146 ?_
  intro T59 X59 e59
  refine G1 X59 K d30_149 rfl ?_
  refine G7 X59 K d30_150 rfl rfl ?_
  have f72 := ((((F46.keep Kc49 (ninS (Ne.symm ne32) (ninS (Ne.symm ne23) (ninS (Ne.symm ne16) nin0)))).keep Kc52 (so11.nin 7 [6] rfl rfl rfl)).keep Kc55 nin0).keep Kc57 (so11.nin 7 [0] rfl rfl rfl))
  refine G32 X59 K (vs' := [.ref a12, .ref a13, .ref a14, .ref a19, .null, .null]) e59 f72 (Or.inr ⟨_, rfl, O18, (Ins.self f70.1)⟩) (by decide) (Nat.le_of_ble_eq_true rfl) rfl d30_152 ?_
  intro T60 h60 X60 e60 W60 F60
  obtain ⟨N60, Ol60, Kp60⟩ := ivW N57 Ol57 Kp57 X60 W60 ge18 (Or.inr sz18)
  refine G0 X60 K d30_153 rfl rfl ?_
  have f73 := (f71.other W60 ne4)
  refine G2 X60 K (w226 H) Via.refl e60 f73.2.1 d30_154 ?_
  intro T61 X61 e61
  refine G7 X61 K d30_157 rfl rfl ?_
  refine G1 X61 K d30_159 rfl ?_
  refine G14 X61 K (W := 2) (w391 H) (w392 H) (w393 H) (w394 H) (by decide) (rm51_118 H Ol60) e61 rfl rfl rfl (lenOf pd_28 rfl) rfl d30_160 (by decide) ?_
  rintro T62 v62 L62 X62 ⟨rfl, N62q, e62⟩
  have N62 := Fr.app N60 N62q
  show Go _ _ _ _ _ (mkF _ _ _ [(.ref (el0 Z a0 131)), .ref a19, .ref b2])
  have f74 := (f70.other W60 ne44)
  have f75 := A_7.keep Kp60 nw_a22
  have kb23 := Keep.cat Kc52 Kc55 [bx2] [0] [] rfl rfl
  have kb24 := Keep.cat Kc57 (Keep.of_wr W60) [bx8, b18] [0] [1] rfl rfl
  have kb25 := Keep.cat kb23 kb24 [bx2, bx8, b18] [0] [1, 2] rfl rfl
  have f76 := (g22.keep kb25 (so11.nin 10 [6, 0, 7] rfl rfl rfl))
  have f77 := (g21.keep kb25 (so11.nin 4 [6, 0, 7] rfl rfl rfl))
  refine G20 X62 K (W := 0) (w398 H) (w399 H) (mvT K.z (w400 H)) (w401 H) (w402 H) (w403 H) (w404 H) (w405 H) (w212 H) (w406 H) (by decide) (rm52_125 H b2 a19 a22 k7 bx4 bx5 bx6 bx7 kB1 Ol60 f74 f75 ge_5 f76 f77 (Ne.symm ne42) (Ne.symm ne43) g12 gebx4 ne25 ge2 (Ne.symm ne25) ne42 ne43) e62 f76.1 rfl rfl rfl (lenOf pd_36 rfl) rfl d30_163 (by decide) ?_
  rintro T63 v63 L63 X63 ⟨bx9, rfl, N63q, Kc63, lz63_0, g27, g28, g29, g30⟩
  have szbx9 := Nat.le_trans Kp60.1 lz63_0
  have gebx9 := Nat.le_trans Ol60.2.1 lz63_0
  have ne47 := so11.ne 0 7 rfl rfl rfl
  have f78 := (g26.other W60 ne47)
  have lkbx9 : bx8 < bx9 := Nat.lt_of_lt_of_le f78.lt lz63_0
  have so12 := so11.cons lkbx9
  obtain ⟨N63, Ol63, Kp63⟩ := ivK N62 Ol60 Kp60 N63q Kc63 (allS ge_5 (allS gebx4 (allS ge2 all0))) (kaS (ow 4 rfl) (kaS (Or.inr szbx4) (kaS (Or.inr sz2) all0)))
  show Go _ _ _ _ _ (mkF _ _ _ [.null])
  refine G37 X63 K d30_168 rfl ?_
  refine G22 X63 K (z := 4) (L' := #[vr a1, vr a2, vr a3, vi 4, vr bx2, vr a6, vr bx8, vr a19]) d30_169 rfl (by decide) rfl ?_
  refine G6 123 X63 K d30_172 (by decide) (by decide) ?_
  refine G7 X63 K d30_123 rfl rfl ?_
  have ne48 := so12.ne 1 11 rfl rfl rfl
  have ne49 := so12.ne 1 5 rfl rfl rfl
  have f79 := (f78.keep Kc63 (ninS (Ne.symm ne45) (ninS ne49 (ninS ne48 nin0))))
  refine G20 X63 K (W := 0) (w323 H) (w324 H) (mvT K.z (w325 H)) (w374 H) (w375 H) (w376 H) (w377 H) (w378 H) (w356 H) (w379 H) (by decide) (rm48_92 H bx8 a8 Ol63 f79) rfl f79.1 rfl rfl rfl (lenOf pd_10 rfl) rfl d30_125 (by decide) ?_
  rintro T64 v64 L64 X64 ⟨rfl, N64q, e64⟩
  have N64 := Fr.app N63 N64q
  show Go _ _ _ _ _ (mkF _ _ _ [.int 1])
  refine G11 X64 K d30_130 (by decide) ?_
  refine G7 X64 K d30_133 rfl rfl ?_
  have f80 := B_9.keep Kp63 nw_a8
  have f81 := A_6.keep Kp63 nw_a18
  refine G59 X64 K (W := 0) (w335 H) (w336 H) (mvT K.z (w337 H)) (w380 H) (w381 H) (w382 H) (w383 H) (w378 H) (w356 H) (w384 H) (by decide) (rm49_94 l H bx8 a8 a18 a19 a20 a21 k6 T63.heap Ol63 f79 f80 f81 gebx8) e64 f79.1 rfl rfl rfl (lenOf pd_26 rfl) rfl d30_135 (by decide) ?_
  rintro T65 v65 L65 X65 ⟨rfl, N65q, Kc65, g31⟩
  obtain ⟨N65, Ol65, Kp65⟩ := ivK N64 Ol63 Kp63 N65q Kc65 (allS gebx8 all0) (kaS (Or.inr szbx8) all0)
  show Go _ _ _ _ _ (mkF _ _ _ [.ref a20])
  have ne50 : a20 ≠ bx3 := (Nat.ne_of_lt (Nat.lt_of_lt_of_le B_11.lt szbx3))
  have ne51 : a20 ≠ bx2 := (Nat.ne_of_lt (Nat.lt_of_lt_of_le B_11.lt szbx2))
  have ne52 : a20 ≠ b5 := (Nat.ne_of_lt (Nat.lt_of_lt_of_le B_11.lt sz5))
  have ne53 : a20 ≠ b2 := (Nat.ne_of_lt (Nat.lt_of_lt_of_le B_11.lt sz2))
  have ne54 : a20 ≠ bx4 := (Nat.ne_of_lt (Nat.lt_of_lt_of_le B_11.lt szbx4))
  have ne55 : a20 ≠ b18 := (Nat.ne_of_lt (Nat.lt_of_lt_of_le B_11.lt sz18))
  have ne56 : a20 ≠ bx8 := (Nat.ne_of_lt (Nat.lt_of_lt_of_le B_11.lt szbx8))
  have f82 := (((((B_11.keep kb15 (ninS ne53 (ninS ne_14 (ninS ne52 (ninS ne51 (ninS ne50 nin0)))))).keep kb22 (ninS ne55 (ninS ne_17 (ninS ne53 (ninS ne50 (ninS ne_16 (ninS ne54 (ninS ne_15 nin0)))))))).keep kb25 (ninS ne51 (ninS ne56 (ninS ne55 nin0)))).keep Kc63 (ninS ne_18 (ninS ne54 (ninS ne53 nin0)))).keep Kc65 (ninS ne56 nin0))
  refine G47 X65 K (w296 H) rfl (Ins.self f82.1) d30_140 ?_
  intro T66 X66 e66
  refine G26 X66 K (L' := #[vr a1, vr a2, vr a3, vi 4, vr bx2, vr a6, vr bx8, vr a20]) d30_143 rfl rfl ?_
  refine G0 X66 K d30_145 rfl rfl ?_
  have f83 := ((f73.keep Kc63 (ninS ne_19 (ninS ne34 (ninS ne1 nin0)))).keep Kc65 (ninS ne46 nin0))
  refine G2 X66 K (w298 H) Via.refl e66 f83.2.2.2.2.2.2 d30_146 ?_
  intro T67 X67 e67
  refine G1 X67 K d30_149 rfl ?_
  refine G7 X67 K d30_150 rfl rfl ?_
  have f84 := ((F60.keep Kc63 (ninS (Ne.symm ne44) (ninS (Ne.symm ne23) (ninS (Ne.symm ne16) nin0)))).keep Kc65 (so12.nin 8 [1] rfl rfl rfl))
  refine G32 X67 K (vs' := [.ref a12, .ref a13, .ref a14, .ref a19, .ref a20, .null]) e67 f84 (Or.inr ⟨_, rfl, O18, (Ins.self f82.1)⟩) (by decide) (Nat.le_of_ble_eq_true rfl) rfl d30_152 ?_
  intro T68 h68 X68 e68 W68 F68
  obtain ⟨N68, Ol68, Kp68⟩ := ivW N65 Ol65 Kp65 X68 W68 ge18 (Or.inr sz18)
  refine G0 X68 K d30_153 rfl rfl ?_
  have f85 := (f83.other W68 ne4)
  refine G2 X68 K (w226 H) Via.refl e68 f85.2.1 d30_154 ?_
  intro T69 X69 e69
  refine G7 X69 K d30_157 rfl rfl ?_
  refine G1 X69 K d30_159 rfl ?_
  refine G14 X69 K (W := 2) (w391 H) (w392 H) (w393 H) (w394 H) (by decide) (rm51_126 H Ol68) e69 rfl rfl rfl (lenOf pd_28 rfl) rfl d30_160 (by decide) ?_
  rintro T70 v70 L70 X70 ⟨rfl, N70q, e70⟩
  have N70 := Fr.app N68 N70q
  show Go _ _ _ _ _ (mkF _ _ _ [(.ref (el0 Z a0 132)), .ref a20, .ref b2])
  have f86 := (f82.other W68 ne55)
  have f87 := A_8.keep Kp68 nw_a23
  have f88 := ((g29.keep Kc65 (so12.nin 11 [1] rfl rfl rfl)).other W68 ne16)
  have f89 := ((g28.keep Kc65 (so12.nin 5 [1] rfl rfl rfl)).other W68 ne23)
  refine G20 X70 K (W := 0) (w398 H) (w399 H) (mvT K.z (w400 H)) (w401 H) (w402 H) (w403 H) (w404 H) (w405 H) (w212 H) (w406 H) (by decide) (rm52_133 H b2 a20 a23 k8 bx4 bx5 bx6 bx7 bx9 kB1 Ol68 f86 f87 ge_6 f88 f89 (Ne.symm ne53) (Ne.symm ne54) g12 gebx4 ne25 ge2 (Ne.symm ne25) ne53 ne54) e70 f88.1 rfl rfl rfl (lenOf pd_36 rfl) rfl d30_163 (by decide) ?_
  rintro T71 v71 L71 X71 ⟨bx10, rfl, N71q, Kc71, lz71_0, g32, g33, g34, g35⟩
  have szbx10 := Nat.le_trans Kp68.1 lz71_0
  have gebx10 := Nat.le_trans Ol68.2.1 lz71_0
  have ne57 := so12.ne 0 8 rfl rfl rfl
  have f90 := ((g30.keep Kc65 (so12.nin 0 [1] rfl rfl rfl)).other W68 ne57)
  have lkbx10 : bx9 < bx10 := Nat.lt_of_lt_of_le f90.lt lz71_0
  have so13 := so12.cons lkbx10
  obtain ⟨N71, Ol71, Kp71⟩ := ivK N70 Ol68 Kp68 N71q Kc71 (allS ge_6 (allS gebx4 (allS ge2 all0))) (kaS (ow 5 rfl) (kaS (Or.inr szbx4) (kaS (Or.inr sz2) all0)))
  show Go _ _ _ _ _ (mkF _ _ _ [.null])
  refine G37 X71 K d30_168 rfl ?_
  refine G22 X71 K (z := 5) (L' := #[vr a1, vr a2, vr a3, vi 5, vr bx2, vr a6, vr bx8, vr a20]) d30_169 rfl (by decide) rfl ?_
  refine G6 123 X71 K d30_172 (by decide) (by decide) ?_
  refine G7 X71 K d30_123 rfl rfl ?_
  have f91 := ((g31.other W68 ne47).keep Kc71 (ninS (Ne.symm ne56) (ninS ne49 (ninS ne48 nin0))))
  refine G20 X71 K (W := 0) (w323 H) (w324 H) (mvT K.z (w325 H)) (w374 H) (w375 H) (w376 H) (w377 H) (w378 H) (w356 H) (w379 H) (by decide) (rm48_103 H bx8 a8 Ol71 f91) rfl f91.1 rfl rfl rfl (lenOf pd_10 rfl) rfl d30_125 (by decide) ?_
  rintro T72 v72 L72 X72 ⟨rfl, N72q, e72⟩
  have N72 := Fr.app N71 N72q
  show Go _ _ _ _ _ (mkF _ _ _ [.int 1])
  refine G11 X72 K d30_130 (by decide) ?_
  refine G7 X72 K d30_133 rfl rfl ?_
  have f92 := B_9.keep Kp71 nw_a8
  have f93 := A_6.keep Kp71 nw_a18
  refine G59 X72 K (W := 0) (w335 H) (w336 H) (mvT K.z (w337 H)) (w380 H) (w381 H) (w382 H) (w383 H) (w378 H) (w356 H) (w384 H) (by decide) (rm49_105 l H bx8 a8 a18 a19 a20 a21 k6 T71.heap Ol71 f91 f92 f93 gebx8) e72 f91.1 rfl rfl rfl (lenOf pd_26 rfl) rfl d30_135 (by decide) ?_
  rintro T73 v73 L73 X73 ⟨rfl, N73q, Kc73, g36⟩
  obtain ⟨N73, Ol73, Kp73⟩ := ivK N72 Ol71 Kp71 N73q Kc73 (allS gebx8 all0) (kaS (Or.inr szbx8) all0)
  show Go _ _ _ _ _ (mkF _ _ _ [.ref a21])
  have kb26 := Keep.cat Kc63 Kc65 [a19, bx4, b2, bx8] [0, 1, 2] [3] rfl rfl
  have kb27 := Keep.cat (Keep.of_wr W68) Kc71 [b18, a20, bx4, b2] [0] [1, 2, 3] rfl rfl
  have kb28 := Keep.cat kb26 kb27 [a19, bx4, b2, bx8, b18, a20] [0, 1, 2, 3] [4, 5, 1, 2] rfl rfl
  have kb29 := Keep.cat kb25 kb28 [bx2, bx8, b18, a19, bx4, b2, a20] [0, 1, 2] [3, 4, 5, 1, 2, 6] rfl rfl
  have kb30 := Keep.cat kb22 kb29 [b18, a12, b2, bx3, a13, bx4, a14, bx2, bx8, a19, a20] [0, 1, 2, 3, 4, 5, 6] [7, 8, 0, 9, 5, 2, 10] rfl rfl
  have kb31 := Keep.cat kb15 kb30 [b2, a1, b5, bx2, bx3, b18, a12, a13, bx4, a14, bx8, a19, a20] [0, 1, 2, 3, 4] [5, 6, 0, 4, 7, 8, 9, 3, 10, 11, 12] rfl rfl
  have ne58 : a21 ≠ bx8 := (Nat.ne_of_lt (Nat.lt_of_lt_of_le B_12.lt szbx8))
  have ne59 : a21 ≠ bx4 := (Nat.ne_of_lt (Nat.lt_of_lt_of_le B_12.lt szbx4))
  have ne60 : a21 ≠ b18 := (Nat.ne_of_lt (Nat.lt_of_lt_of_le B_12.lt sz18))
  have ne61 : a21 ≠ bx3 := (Nat.ne_of_lt (Nat.lt_of_lt_of_le B_12.lt szbx3))
  have ne62 : a21 ≠ bx2 := (Nat.ne_of_lt (Nat.lt_of_lt_of_le B_12.lt szbx2))
  have ne63 : a21 ≠ b5 := (Nat.ne_of_lt (Nat.lt_of_lt_of_le B_12.lt sz5))
  have ne64 : a21 ≠ b2 := (Nat.ne_of_lt (Nat.lt_of_lt_of_le B_12.lt sz2))
  have f94 := ((B_12.keep kb31 (ninS ne64 (ninS ne_25 (ninS ne63 (ninS ne62 (ninS ne61 (ninS ne60 (ninS ne_24 (ninS ne_23 (ninS ne59 (ninS ne_22 (ninS ne58 (ninS ne_21 (ninS ne_20 nin0)))))))))))))).keep Kc73 (ninS ne58 nin0))
  refine G47 X73 K (w296 H) rfl (Ins.self f94.1) d30_140 ?_
  intro T74 X74 e74
  refine G26 X74 K (L' := #[vr a1, vr a2, vr a3, vi 5, vr bx2, vr a6, vr bx8, vr a21]) d30_143 rfl rfl ?_
  refine G0 X74 K d30_145 rfl rfl ?_
  have f95 := ((f85.keep Kc71 (ninS ne_26 (ninS ne34 (ninS ne1 nin0)))).keep Kc73 (ninS ne46 nin0))
  refine G2 X74 K (w298 H) Via.refl e74 f95.2.2.2.2.2.2 d30_146 ?_
  intro T75 X75 e75
  refine G1 X75 K d30_149 rfl ?_
  refine G7 X75 K d30_150 rfl rfl ?_
  have f96 := ((F68.keep Kc71 (ninS (Ne.symm ne55) (ninS (Ne.symm ne23) (ninS (Ne.symm ne16) nin0)))).keep Kc73 (so13.nin 9 [2] rfl rfl rfl))
  refine G32 X75 K (vs' := [.ref a12, .ref a13, .ref a14, .ref a19, .ref a20, .ref a21]) e75 f96 (Or.inr ⟨_, rfl, O18, (Ins.self f94.1)⟩) (by decide) (Nat.le_of_ble_eq_true rfl) rfl d30_152 ?_
  intro T76 h76 X76 e76 W76 F76
  obtain ⟨N76, Ol76, Kp76⟩ := ivW N73 Ol73 Kp73 X76 W76 ge18 (Or.inr sz18)
  refine G0 X76 K d30_153 rfl rfl ?_
  have f97 := (f95.other W76 ne4)
  refine G2 X76 K (w226 H) Via.refl e76 f97.2.1 d30_154 ?_
  intro T77 X77 e77
  refine G7 X77 K d30_157 rfl rfl ?_
  refine G1 X77 K d30_159 rfl ?_
  refine G14 X77 K (W := 2) (w391 H) (w392 H) (w393 H) (w394 H) (by decide) (rm51_134 H Ol76) e77 rfl rfl rfl (lenOf pd_28 rfl) rfl d30_160 (by decide) ?_
  rintro T78 v78 L78 X78 ⟨rfl, N78q, e78⟩
  have N78 := Fr.app N76 N78q
  show Go _ _ _ _ _ (mkF _ _ _ [(.ref (el0 Z a0 133)), .ref a21, .ref b2])
  have f98 := (f94.other W76 ne60)
  have f99 := A_9.keep Kp76 nw_a24
  have f100 := ((g34.keep Kc73 (so13.nin 12 [2] rfl rfl rfl)).other W76 ne16)
  have f101 := ((g33.keep Kc73 (so13.nin 6 [2] rfl rfl rfl)).other W76 ne23)
  refine G20 X78 K (W := 0) (w398 H) (w399 H) (mvT K.z (w400 H)) (w401 H) (w402 H) (w403 H) (w404 H) (w405 H) (w212 H) (w406 H) (by decide) (rm52_141 H b2 a21 a24 k9 bx4 bx5 bx6 bx7 bx9 bx10 kB1 Ol76 f98 f99 ge_7 f100 f101 (Ne.symm ne64) (Ne.symm ne59) g12 gebx4 ne25 ge2 (Ne.symm ne25) ne64 ne59) e78 f100.1 rfl rfl rfl (lenOf pd_36 rfl) rfl d30_163 (by decide) ?_
  rintro T79 v79 L79 X79 ⟨bx11, rfl, N79q, Kc79, lz79_0, g37, g38, g39, g40⟩
  have szbx11 := Nat.le_trans Kp76.1 lz79_0
  have gebx11 := Nat.le_trans Ol76.2.1 lz79_0
  have ne65 := so13.ne 0 9 rfl rfl rfl
  have f102 := ((g35.keep Kc73 (so13.nin 0 [2] rfl rfl rfl)).other W76 ne65)
  have lkbx11 : bx10 < bx11 := Nat.lt_of_lt_of_le f102.lt lz79_0
  have so14 := so13.cons lkbx11
  obtain ⟨N79, Ol79, Kp79⟩ := ivK N78 Ol76 Kp76 N79q Kc79 (allS ge_7 (allS gebx4 (allS ge2 all0))) (kaS (ow 6 rfl) (kaS (Or.inr szbx4) (kaS (Or.inr sz2) all0)))
  show Go _ _ _ _ _ (mkF _ _ _ [.null])
  refine G37 X79 K d30_168 rfl ?_
  refine G22 X79 K (z := 6) (L' := #[vr a1, vr a2, vr a3, vi 6, vr bx2, vr a6, vr bx8, vr a21]) d30_169 rfl (by decide) rfl ?_
  refine G6 123 X79 K d30_172 (by decide) (by decide) ?_
  refine G7 X79 K d30_123 rfl rfl ?_
  have f103 := ((g36.other W76 ne47).keep Kc79 (ninS (Ne.symm ne58) (ninS ne49 (ninS ne48 nin0))))
  refine G20 X79 K (W := 0) (w323 H) (w324 H) (mvT K.z (w325 H)) (w374 H) (w375 H) (w376 H) (w377 H) (w378 H) (w356 H) (w379 H) (by decide) (rm48_114 H bx8 a8 Ol79 f103) rfl f103.1 rfl rfl rfl (lenOf pd_10 rfl) rfl d30_125 (by decide) ?_
  rintro T80 v80 L80 X80 ⟨rfl, N80q, e80⟩
  have N80 := Fr.app N79 N80q
  show Go _ _ _ _ _ (mkF _ _ _ [.int 0])
  refine G15 175 X80 K d30_130 (by decide) (by decide) (by decide) ?_
  refine G6 89 X80 K d30_175 (by decide) (by decide) ?_
  refine G7 X80 K d30_89 rfl rfl ?_
  have ne66 := so14.ne 9 3 rfl rfl rfl
  have f104 := (((((((g24.keep Kc55 nin0).keep Kc57 (so14.nin 9 [3] rfl rfl rfl)).other W60 ne38).keep kb28 (ninS (Ne.symm ne40) (ninS ne36 (ninS (Ne.symm ne15) (ninS ne66 (ninS ne38 (ninS (Ne.symm ne51) nin0))))))).keep Kc73 (so14.nin 9 [3] rfl rfl rfl)).other W76 ne38).keep Kc79 (ninS (Ne.symm ne62) (ninS ne36 (ninS (Ne.symm ne15) nin0))))
  have f105 := B_2.keep Kp79 nw_a3
  refine G20 X80 K (W := 0) (w323 H) (w324 H) (mvT K.z (w325 H)) (tw H 326 rfl) (tw H 327 rfl) (tw H 328 rfl) (tw H 329 rfl) (tw H 330 rfl) (w310 H) (tw H 331 rfl) (by decide) (rm43_142 H bx2 a3 a4 Ol79 f104 f105) e80 f104.1 rfl rfl rfl (lenOf pd_10 rfl) rfl d30_91 (by decide) ?_
  rintro T81 v81 L81 X81 ⟨rfl, N81q, e81⟩
  have N81 := Fr.app N80 N81q
  show Go _ _ _ _ _ (mkF _ _ _ [.int 0])
  refine G15 178 X81 K d30_96 (by decide) (by decide) (by decide) ?_
  refine G17 X81 K d30_178 (by decide) (by decide) ?_
  have Kp : Keep h0 T81.heap [a1, a12, a13, a14, a19, a20, a21] := by rw [e81]; exact Kp79
  have f106 := (f97.keep Kc79 (ninS ne_27 (ninS ne34 (ninS ne1 nin0))))
  have ne67 : a12 ≠ bx4 := (Nat.ne_of_lt (Nat.lt_of_lt_of_le B_6.lt szbx4))
  have ne68 : a12 ≠ bx8 := (Nat.ne_of_lt (Nat.lt_of_lt_of_le B_6.lt szbx8))
  have f107 := (((((((g8.keep Kc35 (ninS ne6 nin0)).other W38 ne12).keep kb21 (ninS ne_29 (ninS ne67 (ninS ne9 (ninS ne6 (ninS ne12 (ninS ne_28 nin0))))))).keep kb29 (ninS ne7 (ninS ne68 (ninS ne12 (ninS ne_31 (ninS ne67 (ninS ne9 (ninS ne_30 nin0)))))))).keep Kc73 (ninS ne68 nin0)).other W76 ne12).keep Kc79 (ninS ne_32 (ninS ne67 (ninS ne9 nin0))))
  have ne69 : a13 ≠ bx8 := (Nat.ne_of_lt (Nat.lt_of_lt_of_le B_7.lt szbx8))
  have f108 := (((((((g15.keep Kc43 (ninS ne18 nin0)).other W46 ne22).keep Kc49 (ninS ne_33 (ninS ne24 (ninS ne21 nin0)))).keep kb29 (ninS ne19 (ninS ne69 (ninS ne22 (ninS ne_35 (ninS ne24 (ninS ne21 (ninS ne_34 nin0)))))))).keep Kc73 (ninS ne69 nin0)).other W76 ne22).keep Kc79 (ninS ne_36 (ninS ne24 (ninS ne21 nin0))))
  have ne70 : a14 ≠ bx8 := (Nat.ne_of_lt (Nat.lt_of_lt_of_le B_8.lt szbx8))
  have f109 := ((((g20.keep kb29 (ninS ne29 (ninS ne70 (ninS ne32 (ninS ne_38 (ninS ne33 (ninS ne31 (ninS ne_37 nin0)))))))).keep Kc73 (ninS ne70 nin0)).other W76 ne32).keep Kc79 (ninS ne_39 (ninS ne33 (ninS ne31 nin0))))
  have f110 := ((((((g27.keep Kc65 (ninS ne45 nin0)).other W68 ne44).keep Kc71 (ninS ne_40 (ninS ne43 (ninS ne42 nin0)))).keep Kc73 (ninS ne45 nin0)).other W76 ne44).keep Kc79 (ninS ne_41 (ninS ne43 (ninS ne42 nin0))))
  have f111 := (((g32.keep Kc73 (ninS ne56 nin0)).other W76 ne55).keep Kc79 (ninS ne_42 (ninS ne54 (ninS ne53 nin0))))
  have ne71 := so14.ne 12 8 rfl rfl rfl
  have ne72 := so14.ne 12 9 rfl rfl rfl
  have ne73 := so14.ne 12 3 rfl rfl rfl
  have ne74 := so14.ne 12 7 rfl rfl rfl
  have ne75 := so14.ne 12 10 rfl rfl rfl
  have f112 := ((((((f9.keep Kc9 nin0).keep kb14 (ninS (Ne.symm ne2) (ninS ne72 (ninS ne71 nin0)))).keep kb30 (ninS ne75 (ninS (Ne.symm ne8) (ninS (Ne.symm ne13) (ninS ne71 (ninS (Ne.symm ne20) (ninS ne74 (ninS (Ne.symm ne30) (ninS ne72 (ninS ne73 (ninS (Ne.symm ne41) (ninS (Ne.symm ne52) nin0)))))))))))).keep Kc73 (so14.nin 12 [3] rfl rfl rfl)).other W76 ne75).keep Kc79 (ninS (Ne.symm ne63) (ninS ne74 (ninS (Ne.symm ne13) nin0))))
  have ne76 : a20 ≠ bx1 := (Nat.ne_of_lt (Nat.lt_of_lt_of_le B_11.lt szbx1))
  have ne77 : a19 ≠ bx1 := (Nat.ne_of_lt (Nat.lt_of_lt_of_le B_10.lt szbx1))
  have ne78 := so14.ne 11 3 rfl rfl rfl
  have ne79 := so14.ne 11 9 rfl rfl rfl
  have ne80 : a14 ≠ bx1 := (Nat.ne_of_lt (Nat.lt_of_lt_of_le B_8.lt szbx1))
  have ne81 := so14.ne 11 7 rfl rfl rfl
  have ne82 : a13 ≠ bx1 := (Nat.ne_of_lt (Nat.lt_of_lt_of_le B_7.lt szbx1))
  have ne83 := so14.ne 11 8 rfl rfl rfl
  have ne84 := so14.ne 11 13 rfl rfl rfl
  have ne85 : a12 ≠ bx1 := (Nat.ne_of_lt (Nat.lt_of_lt_of_le B_6.lt szbx1))
  have ne86 := so14.ne 11 10 rfl rfl rfl
  have ne87 : a21 ≠ bx1 := (Nat.ne_of_lt (Nat.lt_of_lt_of_le B_12.lt szbx1))
  have f113 := (((((((f17.ext E18).other W19 (Ne.symm ne3)).keep kb13 (so14.nin 11 [9, 8] rfl rfl rfl)).keep kb30 (ninS ne86 (ninS (Ne.symm ne85) (ninS ne84 (ninS ne83 (ninS (Ne.symm ne82) (ninS ne81 (ninS (Ne.symm ne80) (ninS ne79 (ninS ne78 (ninS (Ne.symm ne77) (ninS (Ne.symm ne76) nin0)))))))))))).keep Kc73 (so14.nin 11 [3] rfl rfl rfl)).other W76 ne86).keep Kc79 (ninS (Ne.symm ne87) (ninS ne81 (ninS ne84 nin0))))
  have f114 := (F76.keep Kc79 (ninS (Ne.symm ne60) (ninS (Ne.symm ne23) (ninS (Ne.symm ne16) nin0))))
  have f115 := ((((((B18.wr W19).keep kb13).keep kb30).keep Kc73).wr W76).keep Kc79)
  have f116 := (((((((g11.keep Kc35).wr W38).keep kb21).keep kb29).keep Kc73).wr W76).keep Kc79)
  have ne88 : a14 ≠ bx5 := (Nat.ne_of_lt (Nat.lt_of_lt_of_le B_8.lt szbx5))
  have ne89 := so14.ne 6 8 rfl rfl rfl
  have ne90 := so14.ne 6 13 rfl rfl rfl
  have ne91 := so14.ne 6 7 rfl rfl rfl
  have ne92 : a13 ≠ bx5 := (Nat.ne_of_lt (Nat.lt_of_lt_of_le B_7.lt szbx5))
  have ne93 : a20 ≠ bx5 := (Nat.ne_of_lt (Nat.lt_of_lt_of_le B_11.lt szbx5))
  have ne94 : a19 ≠ bx5 := (Nat.ne_of_lt (Nat.lt_of_lt_of_le B_10.lt szbx5))
  have ne95 := so14.ne 6 3 rfl rfl rfl
  have ne96 := so14.ne 6 9 rfl rfl rfl
  have ne97 : a21 ≠ bx5 := (Nat.ne_of_lt (Nat.lt_of_lt_of_le B_12.lt szbx5))
  have f117 := (((((f47.keep kb21 (ninS (Ne.symm ne92) (ninS ne91 (ninS ne90 (ninS ne89 (ninS ne26 (ninS (Ne.symm ne88) nin0))))))).keep kb29 (ninS ne96 (ninS ne95 (ninS ne26 (ninS (Ne.symm ne94) (ninS ne91 (ninS ne90 (ninS (Ne.symm ne93) nin0)))))))).keep Kc73 (so14.nin 6 [3] rfl rfl rfl)).other W76 ne26).keep Kc79 (ninS (Ne.symm ne97) (ninS ne91 (ninS ne90 nin0))))
  have ne98 := so14.ne 5 13 rfl rfl rfl
  have ne99 := so14.ne 5 7 rfl rfl rfl
  have ne100 : a14 ≠ bx6 := (Nat.ne_of_lt (Nat.lt_of_lt_of_le B_8.lt szbx6))
  have ne101 : a20 ≠ bx6 := (Nat.ne_of_lt (Nat.lt_of_lt_of_le B_11.lt szbx6))
  have ne102 : a19 ≠ bx6 := (Nat.ne_of_lt (Nat.lt_of_lt_of_le B_10.lt szbx6))
  have ne103 := so14.ne 5 3 rfl rfl rfl
  have ne104 := so14.ne 5 9 rfl rfl rfl
  have ne105 : a21 ≠ bx6 := (Nat.ne_of_lt (Nat.lt_of_lt_of_le B_12.lt szbx6))
  have f118 := (((((f59.keep Kc49 (ninS (Ne.symm ne100) (ninS ne99 (ninS ne98 nin0)))).keep kb29 (ninS ne104 (ninS ne103 (ninS ne35 (ninS (Ne.symm ne102) (ninS ne99 (ninS ne98 (ninS (Ne.symm ne101) nin0)))))))).keep Kc73 (so14.nin 5 [3] rfl rfl rfl)).other W76 ne35).keep Kc79 (ninS (Ne.symm ne105) (ninS ne99 (ninS ne98 nin0))))
  have ne106 := so14.ne 4 10 rfl rfl rfl
  have ne107 : a20 ≠ bx7 := (Nat.ne_of_lt (Nat.lt_of_lt_of_le B_11.lt szbx7))
  have ne108 := so14.ne 4 3 rfl rfl rfl
  have ne109 := so14.ne 4 13 rfl rfl rfl
  have ne110 := so14.ne 4 7 rfl rfl rfl
  have ne111 : a19 ≠ bx7 := (Nat.ne_of_lt (Nat.lt_of_lt_of_le B_10.lt szbx7))
  have ne112 : a21 ≠ bx7 := (Nat.ne_of_lt (Nat.lt_of_lt_of_le B_12.lt szbx7))
  have f119 := (((((((f67.keep Kc55 nin0).keep Kc57 (so14.nin 4 [3] rfl rfl rfl)).other W60 ne106).keep kb28 (ninS (Ne.symm ne111) (ninS ne110 (ninS ne109 (ninS ne108 (ninS ne106 (ninS (Ne.symm ne107) nin0))))))).keep Kc73 (so14.nin 4 [3] rfl rfl rfl)).other W76 ne106).keep Kc79 (ninS (Ne.symm ne112) (ninS ne110 (ninS ne109 nin0))))
  have ne113 := so14.ne 2 13 rfl rfl rfl
  have ne114 := so14.ne 2 7 rfl rfl rfl
  have ne115 : a20 ≠ bx9 := (Nat.ne_of_lt (Nat.lt_of_lt_of_le B_11.lt szbx9))
  have ne116 : a21 ≠ bx9 := (Nat.ne_of_lt (Nat.lt_of_lt_of_le B_12.lt szbx9))
  have f120 := ((((f90.keep Kc71 (ninS (Ne.symm ne115) (ninS ne114 (ninS ne113 nin0)))).keep Kc73 (so14.nin 2 [3] rfl rfl rfl)).other W76 ne57).keep Kc79 (ninS (Ne.symm ne116) (ninS ne114 (ninS ne113 nin0))))
  have ne117 := so14.ne 1 13 rfl rfl rfl
  have ne118 := so14.ne 1 7 rfl rfl rfl
  have ne119 : a21 ≠ bx10 := (Nat.ne_of_lt (Nat.lt_of_lt_of_le B_12.lt szbx10))
  have f121 := (f102.keep Kc79 (ninS (Ne.symm ne119) (ninS ne118 (ninS ne117 nin0))))
  exact ⟨b2, b5, bx1, b18, bx4, bx5, bx6, bx7, bx9, bx10, bx11, kA18, kB1, rfl, N81, Kp, sz2, lk5, lkbx1, lk18, (so14.lt 7 10 rfl rfl rfl), lz33_1, lkbx6, lkbx7, (so14.lt 2 4 rfl rfl rfl), lkbx10, lkbx11, (by rw [e81]; exact f106), (by rw [e81]; exact f107), (by rw [e81]; exact f108), (by rw [e81]; exact f109), (by rw [e81]; exact f110), (by rw [e81]; exact f111), (by rw [e81]; exact g37), (by rw [e81]; exact g39), (by rw [e81]; exact f112), (by rw [e81]; exact f113), (by rw [e81]; exact f114), (by rw [e81]; exact f115), O18, (by rw [e81]; exact g38), (by rw [e81]; exact f116), g12, (by rw [e81]; exact f117), (by rw [e81]; exact f118), (by rw [e81]; exact f119), (by rw [e81]; exact f120), (by rw [e81]; exact f121), (by rw [e81]; exact g40)⟩
theorem rm63_144 (H : Hyp Z a0) (a1 a2 a3 a4 a5 a6 : Addr) (Ol0 : Old Z (ζ Z) h0) (B_1 : Ω4 Z h0 a1 (.ref a2) (.ref a3) (.ref a4) (.ref a5) (.int 3) (.ref a6)) :
    Mt l Z M76 C77 1 (some .int) [] ⟨0, 0, 0, 0⟩ #[.ref a1] h0 (fun v h L => (v = some (.int 3) ∧ Fr (ζ Z) L ∧ h = h0)) := by
  refine g_be (pf pn3) (ef_0 a1) fun T0 K X0 e0 => ?_
  refine G0 X0 K d63_0 rfl rfl ?_
  refine G2 X0 K (tw H 289 rfl) Via.refl e0 B_1.2.2.2.2.2.1 d63_1 ?_
  intro T1 X1 e1
  refine G18 X1 K d63_4 (by decide) (by decide) ?_
  exact ⟨rfl, (Fr.nil _), e1⟩
theorem rm65_145 (H : Hyp Z a0) (a1 a2 a3 : Addr) (Ol0 : Old Z (ζ Z) h0) (B_1 : Ω6 Z h0 a1 (.ref a2) (.ref a3)) (ge_1 : (ζ Z) ≤ a3) :
    Mt l Z M78 C59 1 (some .int) [] ⟨0, 0, 0, 0⟩ #[.ref a1] h0 (fun v h L => (v = some (.int 2) ∧ Fr (ζ Z) L ∧ h = h0)) := by
  refine g_be (pf pn21) (ef_0 a1) fun T0 K X0 e0 => ?_
  refine G0 X0 K d65_0 rfl rfl ?_
  refine G2 X0 K (tw H 249 rfl) Via.refl e0 B_1.2.2 d65_1 ?_
  intro T1 X1 e1
  refine G88 X1 K (tw H 504 rfl) e1 ((s3 H).ext Ol0.2) d65_4 ?_
  intro T2 X2 e2
  have ne1 : (ad3 Z a0) ≠ a3 := (Nat.ne_of_lt (Nat.lt_of_lt_of_le (x3 H).lt ge_1))
  refine G64 10 X2 K (same := false) d65_7 rfl rfl (decide_eq_false fun q => (Ne.symm ne1) (Value.ref.inj q)) (by decide) (by decide) ?_
  refine G3 X2 K (v := 2) d65_10 (by decide) ?_
  refine G6 15 X2 K d65_11 (by decide) (by decide) ?_
  refine G18 X2 K d65_15 (by decide) (by decide) ?_
  exact ⟨rfl, (Fr.nil _), e2⟩
theorem rm64_146 (H : Hyp Z a0) (a1 a2 a3 a4 a5 a6 a7 a8 : Addr) (Ol0 : Old Z (ζ Z) h0) (B_1 : Ω4 Z h0 a1 (.ref a2) (.ref a3) (.ref a4) (.ref a5) (.int 3) (.ref a6)) (B_2 : Ω6 Z h0 a5 (.ref a7) (.ref a8)) (ge_1 : (ζ Z) ≤ a8) :
    Mt l Z M77 C71 1 (some .int) [] ⟨1, 0, 0, 12⟩ #[.ref a1] h0 (fun v h L => (v = some (.int 2) ∧ Fr (ζ Z) L ∧ h = h0)) := by
  refine g_be (pf pn3) (ef_0 a1) fun T0 K X0 e0 => ?_
  refine G0 X0 K d64_0 rfl rfl ?_
  refine G2 X0 K (tw H 251 rfl) Via.refl e0 B_1.2.2.2.2.1 d64_1 ?_
  intro T1 X1 e1
  refine G20 X1 K (W := 0) (w280 H) (w281 H) (mvT K.z (w282 H)) (tw H 498 rfl) (tw H 499 rfl) (tw H 500 rfl) (tw H 501 rfl) (tw H 502 rfl) (w237 H) (tw H 503 rfl) (by decide) (rm65_145 H a5 a7 a8 Ol0 B_2 ge_1) e1 B_2.1 rfl rfl rfl (lenOf pd_23 rfl) rfl d64_4 (by decide) ?_
  rintro T2 v2 L2 X2 ⟨rfl, N2q, e2⟩
  have N2 := Fr.app (Fr.nil _) N2q
  show Go _ _ _ _ _ (mkF _ _ _ [.int 2])
  refine G18 X2 K d64_9 (by decide) (by decide) ?_
  exact ⟨rfl, N2, e2⟩
theorem rm66_147 (H : Hyp Z a0) (a1 a2 a3 a4 a5 a6 a7 a8 a9 a10 a11 a12 : Addr) (k1 : ClassId) (Ol0 : Old Z (ζ Z) h0) (B_1 : Ω4 Z h0 a1 (.ref a2) (.ref a3) (.ref a4) (.ref a5) (.int 3) (.ref a6)) (A_1 : Arv Z h0 a6 k1 (.object Q10) 6 [.ref a7, .ref a8, .ref a9, .ref a10, .ref a11, .ref a12] .null) :
    Mt l Z M79 C72 1 (some .int) [] ⟨0, 0, 0, 0⟩ #[.ref a1] h0 (fun v h L => (v = some (.int 6) ∧ Fr (ζ Z) L ∧ h = h0)) := by
  refine g_be (pf pn3) (ef_0 a1) fun T0 K X0 e0 => ?_
  refine G0 X0 K d66_0 rfl rfl ?_
  refine G2 X0 K (w298 H) Via.refl e0 B_1.2.2.2.2.2.2 d66_1 ?_
  intro T1 X1 e1
  refine G21 X1 K e1 A_1 d66_4 ?_
  refine G18 X1 K d66_5 (by decide) (by decide) ?_
  exact ⟨rfl, (Fr.nil _), e1⟩
theorem rm67_148 (H : Hyp Z a0) (a1 a2 a3 a4 a5 a6 a7 a8 a9 a10 a11 a12 : Addr) (k1 : ClassId) (a13 a14 : Addr) (Ol0 : Old Z (ζ Z) h0) (B_1 : Ω4 Z h0 a1 (.ref a2) (.ref a3) (.ref a4) (.ref a5) (.int 3) (.ref a6)) (A_1 : Arv Z h0 a6 k1 (.object Q10) 6 [.ref a7, .ref a8, .ref a9, .ref a10, .ref a11, .ref a12] .null) (B_2 : Ω6 Z h0 a5 (.ref a13) (.ref a14)) (ge_1 : (ζ Z) ≤ a14) :
    Mt l Z M80 C49 1 (some .int) [] ⟨1, 0, 0, 13⟩ #[.ref a1] h0 (fun v h L => (v = some (.int 12) ∧ Fr (ζ Z) L ∧ h = h0)) := by
  refine g_be (pf pn3) (ef_0 a1) fun T0 K X0 e0 => ?_
  refine G0 X0 K d67_0 rfl rfl ?_
  refine G2 X0 K (w298 H) Via.refl e0 B_1.2.2.2.2.2.2 d67_1 ?_
  intro T1 X1 e1
  refine G21 X1 K e1 A_1 d67_4 ?_
  refine G0 X1 K d67_5 rfl rfl ?_
  refine G2 X1 K (tw H 251 rfl) Via.refl e1 B_1.2.2.2.2.1 d67_6 ?_
  intro T2 X2 e2
  refine G20 X2 K (W := 1) (w280 H) (w281 H) (mvT K.z (w282 H)) (tw H 498 rfl) (tw H 499 rfl) (tw H 500 rfl) (tw H 501 rfl) (tw H 502 rfl) (w237 H) (tw H 503 rfl) (by decide) (rm65_145 H a5 a13 a14 Ol0 B_2 ge_1) e2 B_2.1 rfl rfl rfl (lenOf pd_23 rfl) rfl d67_9 (by decide) ?_
  rintro T3 v3 L3 X3 ⟨rfl, N3q, e3⟩
  have N3 := Fr.app (Fr.nil _) N3q
  show Go _ _ _ _ _ (mkF _ _ _ [.int 2, .int 6])
  refine G48 X3 K d67_14 (z := 12) (by decide) ?_
  refine G18 X3 K d67_15 (by decide) (by decide) ?_
  exact ⟨rfl, N3, e3⟩
theorem rm68_149 (H : Hyp Z a0) (a1 : Addr) (k1 : ClassId) (Ol0 : Old Z (ζ Z) h0) (A_1 : Arv Z h0 a1 k1 .int 12 [.int 0, .int 0, .int 0, .int 0, .int 0, .int 0, .int 0, .int 0, .int 0, .int 0, .int 0, .int 0] (.int 0)) (ge_1 : (ζ Z) ≤ a1) :
    Mt l Z M81 C25 4 none [] ⟨0, 0, 0, 0⟩ #[.ref a1, .int (-1)] h0 (fun v h L => (v = none ∧ Fr (ζ Z) L ∧ Keep h0 h [a1] ∧ Arv Z h a1 k1 .int 12 [.int (-1), .int (-1), .int (-1), .int (-1), .int (-1), .int (-1), .int (-1), .int (-1), .int (-1), .int (-1), .int (-1), .int (-1)] (.int 0))) := by
  refine g_be (pf pn14) (ef_50 a1) fun T0 K X0 e0 => ?_
  refine G3 X0 K (v := 0) d68_0 (by decide) ?_
  refine G24 X0 K (L' := #[vr a1, vi (-1), vi 0, un]) d68_1 rfl ?_
  refine G0 X0 K d68_2 rfl rfl ?_
  refine G21 X0 K e0 A_1 d68_3 ?_
  refine G24 X0 K (L' := #[vr a1, vi (-1), vi 0, vi 12]) d68_4 rfl ?_
  refine G1 X0 K d68_5 rfl ?_
  refine G1 X0 K d68_6 rfl ?_
  refine G10 X0 K d68_7 (by decide) ?_
  refine G0 X0 K d68_10 rfl rfl ?_
  refine G1 X0 K d68_11 rfl ?_
  refine G1 X0 K d68_12 rfl ?_
  refine G39 X0 K (vs' := [.int (-1), .int 0, .int 0, .int 0, .int 0, .int 0, .int 0, .int 0, .int 0, .int 0, .int 0, .int 0]) e0 A_1 (by decide) (Nat.le_of_ble_eq_true rfl) rfl d68_13 ?_
  intro T1 h1 X1 e1 W1 F1
  obtain ⟨N1, Ol1, Kp1⟩ := ivW (Fr.nil _) Ol0 (Keep.refl h0 [a1]) X1 W1 ge_1 (ow 0 rfl)
  refine G22 X1 K (z := 1) (L' := #[vr a1, vi (-1), vi 1, vi 12]) d68_14 rfl (by decide) rfl ?_
  refine G6 5 X1 K d68_17 (by decide) (by decide) ?_
  refine G1 X1 K d68_5 rfl ?_
  refine G1 X1 K d68_6 rfl ?_
  refine G10 X1 K d68_7 (by decide) ?_
  refine G0 X1 K d68_10 rfl rfl ?_
  refine G1 X1 K d68_11 rfl ?_
  refine G1 X1 K d68_12 rfl ?_
  refine G39 X1 K (vs' := [.int (-1), .int (-1), .int 0, .int 0, .int 0, .int 0, .int 0, .int 0, .int 0, .int 0, .int 0, .int 0]) e1 F1 (by decide) (Nat.le_of_ble_eq_true rfl) rfl d68_13 ?_
  intro T2 h2 X2 e2 W2 F2
  obtain ⟨N2, Ol2, Kp2⟩ := ivW N1 Ol1 Kp1 X2 W2 ge_1 (ow 0 rfl)
  refine G22 X2 K (z := 2) (L' := #[vr a1, vi (-1), vi 2, vi 12]) d68_14 rfl (by decide) rfl ?_
  refine G6 5 X2 K d68_17 (by decide) (by decide) ?_
  refine G1 X2 K d68_5 rfl ?_
  refine G1 X2 K d68_6 rfl ?_
  refine G10 X2 K d68_7 (by decide) ?_
  refine G0 X2 K d68_10 rfl rfl ?_
  refine G1 X2 K d68_11 rfl ?_
  refine G1 X2 K d68_12 rfl ?_
  refine G39 X2 K (vs' := [.int (-1), .int (-1), .int (-1), .int 0, .int 0, .int 0, .int 0, .int 0, .int 0, .int 0, .int 0, .int 0]) e2 F2 (by decide) (Nat.le_of_ble_eq_true rfl) rfl d68_13 ?_
  intro T3 h3 X3 e3 W3 F3
  obtain ⟨N3, Ol3, Kp3⟩ := ivW N2 Ol2 Kp2 X3 W3 ge_1 (ow 0 rfl)
  refine G22 X3 K (z := 3) (L' := #[vr a1, vi (-1), vi 3, vi 12]) d68_14 rfl (by decide) rfl ?_
  refine G6 5 X3 K d68_17 (by decide) (by decide) ?_
  refine G1 X3 K d68_5 rfl ?_
  refine G1 X3 K d68_6 rfl ?_
  refine G10 X3 K d68_7 (by decide) ?_
  refine G0 X3 K d68_10 rfl rfl ?_
  refine G1 X3 K d68_11 rfl ?_
  refine G1 X3 K d68_12 rfl ?_
  refine G39 X3 K (vs' := [.int (-1), .int (-1), .int (-1), .int (-1), .int 0, .int 0, .int 0, .int 0, .int 0, .int 0, .int 0, .int 0]) e3 F3 (by decide) (Nat.le_of_ble_eq_true rfl) rfl d68_13 ?_
  intro T4 h4 X4 e4 W4 F4
  obtain ⟨N4, Ol4, Kp4⟩ := ivW N3 Ol3 Kp3 X4 W4 ge_1 (ow 0 rfl)
  refine G22 X4 K (z := 4) (L' := #[vr a1, vi (-1), vi 4, vi 12]) d68_14 rfl (by decide) rfl ?_
  refine G6 5 X4 K d68_17 (by decide) (by decide) ?_
  refine G1 X4 K d68_5 rfl ?_
  refine G1 X4 K d68_6 rfl ?_
  refine G10 X4 K d68_7 (by decide) ?_
  refine G0 X4 K d68_10 rfl rfl ?_
  refine G1 X4 K d68_11 rfl ?_
  refine G1 X4 K d68_12 rfl ?_
  refine G39 X4 K (vs' := [.int (-1), .int (-1), .int (-1), .int (-1), .int (-1), .int 0, .int 0, .int 0, .int 0, .int 0, .int 0, .int 0]) e4 F4 (by decide) (Nat.le_of_ble_eq_true rfl) rfl d68_13 ?_
  intro T5 h5 X5 e5 W5 F5
  obtain ⟨N5, Ol5, Kp5⟩ := ivW N4 Ol4 Kp4 X5 W5 ge_1 (ow 0 rfl)
  refine G22 X5 K (z := 5) (L' := #[vr a1, vi (-1), vi 5, vi 12]) d68_14 rfl (by decide) rfl ?_
  refine G6 5 X5 K d68_17 (by decide) (by decide) ?_
  refine G1 X5 K d68_5 rfl ?_
  refine G1 X5 K d68_6 rfl ?_
  refine G10 X5 K d68_7 (by decide) ?_
  refine G0 X5 K d68_10 rfl rfl ?_
  refine G1 X5 K d68_11 rfl ?_
  refine G1 X5 K d68_12 rfl ?_
  refine G39 X5 K (vs' := [.int (-1), .int (-1), .int (-1), .int (-1), .int (-1), .int (-1), .int 0, .int 0, .int 0, .int 0, .int 0, .int 0]) e5 F5 (by decide) (Nat.le_of_ble_eq_true rfl) rfl d68_13 ?_
  intro T6 h6 X6 e6 W6 F6
  obtain ⟨N6, Ol6, Kp6⟩ := ivW N5 Ol5 Kp5 X6 W6 ge_1 (ow 0 rfl)
  refine G22 X6 K (z := 6) (L' := #[vr a1, vi (-1), vi 6, vi 12]) d68_14 rfl (by decide) rfl ?_
  refine G6 5 X6 K d68_17 (by decide) (by decide) ?_
  refine G1 X6 K d68_5 rfl ?_
  refine G1 X6 K d68_6 rfl ?_
  refine G10 X6 K d68_7 (by decide) ?_
  refine G0 X6 K d68_10 rfl rfl ?_
  refine G1 X6 K d68_11 rfl ?_
  refine G1 X6 K d68_12 rfl ?_
  refine G39 X6 K (vs' := [.int (-1), .int (-1), .int (-1), .int (-1), .int (-1), .int (-1), .int (-1), .int 0, .int 0, .int 0, .int 0, .int 0]) e6 F6 (by decide) (Nat.le_of_ble_eq_true rfl) rfl d68_13 ?_
  intro T7 h7 X7 e7 W7 F7
  obtain ⟨N7, Ol7, Kp7⟩ := ivW N6 Ol6 Kp6 X7 W7 ge_1 (ow 0 rfl)
  refine G22 X7 K (z := 7) (L' := #[vr a1, vi (-1), vi 7, vi 12]) d68_14 rfl (by decide) rfl ?_
  refine G6 5 X7 K d68_17 (by decide) (by decide) ?_
  refine G1 X7 K d68_5 rfl ?_
  refine G1 X7 K d68_6 rfl ?_
  refine G10 X7 K d68_7 (by decide) ?_
  refine G0 X7 K d68_10 rfl rfl ?_
  refine G1 X7 K d68_11 rfl ?_
  refine G1 X7 K d68_12 rfl ?_
  refine G39 X7 K (vs' := [.int (-1), .int (-1), .int (-1), .int (-1), .int (-1), .int (-1), .int (-1), .int (-1), .int 0, .int 0, .int 0, .int 0]) e7 F7 (by decide) (Nat.le_of_ble_eq_true rfl) rfl d68_13 ?_
  intro T8 h8 X8 e8 W8 F8
  obtain ⟨N8, Ol8, Kp8⟩ := ivW N7 Ol7 Kp7 X8 W8 ge_1 (ow 0 rfl)
  refine G22 X8 K (z := 8) (L' := #[vr a1, vi (-1), vi 8, vi 12]) d68_14 rfl (by decide) rfl ?_
  refine G6 5 X8 K d68_17 (by decide) (by decide) ?_
  refine G1 X8 K d68_5 rfl ?_
  refine G1 X8 K d68_6 rfl ?_
  refine G10 X8 K d68_7 (by decide) ?_
  refine G0 X8 K d68_10 rfl rfl ?_
  refine G1 X8 K d68_11 rfl ?_
  refine G1 X8 K d68_12 rfl ?_
  refine G39 X8 K (vs' := [.int (-1), .int (-1), .int (-1), .int (-1), .int (-1), .int (-1), .int (-1), .int (-1), .int (-1), .int 0, .int 0, .int 0]) e8 F8 (by decide) (Nat.le_of_ble_eq_true rfl) rfl d68_13 ?_
  intro T9 h9 X9 e9 W9 F9
  obtain ⟨N9, Ol9, Kp9⟩ := ivW N8 Ol8 Kp8 X9 W9 ge_1 (ow 0 rfl)
  refine G22 X9 K (z := 9) (L' := #[vr a1, vi (-1), vi 9, vi 12]) d68_14 rfl (by decide) rfl ?_
  refine G6 5 X9 K d68_17 (by decide) (by decide) ?_
  refine G1 X9 K d68_5 rfl ?_
  refine G1 X9 K d68_6 rfl ?_
  refine G10 X9 K d68_7 (by decide) ?_
  refine G0 X9 K d68_10 rfl rfl ?_
  refine G1 X9 K d68_11 rfl ?_
  refine G1 X9 K d68_12 rfl ?_
  refine G39 X9 K (vs' := [.int (-1), .int (-1), .int (-1), .int (-1), .int (-1), .int (-1), .int (-1), .int (-1), .int (-1), .int (-1), .int 0, .int 0]) e9 F9 (by decide) (Nat.le_of_ble_eq_true rfl) rfl d68_13 ?_
  intro T10 h10 X10 e10 W10 F10
  obtain ⟨N10, Ol10, Kp10⟩ := ivW N9 Ol9 Kp9 X10 W10 ge_1 (ow 0 rfl)
  refine G22 X10 K (z := 10) (L' := #[vr a1, vi (-1), vi 10, vi 12]) d68_14 rfl (by decide) rfl ?_
  refine G6 5 X10 K d68_17 (by decide) (by decide) ?_
  refine G1 X10 K d68_5 rfl ?_
  refine G1 X10 K d68_6 rfl ?_
  refine G10 X10 K d68_7 (by decide) ?_
  refine G0 X10 K d68_10 rfl rfl ?_
  refine G1 X10 K d68_11 rfl ?_
  refine G1 X10 K d68_12 rfl ?_
  refine G39 X10 K (vs' := [.int (-1), .int (-1), .int (-1), .int (-1), .int (-1), .int (-1), .int (-1), .int (-1), .int (-1), .int (-1), .int (-1), .int 0]) e10 F10 (by decide) (Nat.le_of_ble_eq_true rfl) rfl d68_13 ?_
  intro T11 h11 X11 e11 W11 F11
  obtain ⟨N11, Ol11, Kp11⟩ := ivW N10 Ol10 Kp10 X11 W11 ge_1 (ow 0 rfl)
  refine G22 X11 K (z := 11) (L' := #[vr a1, vi (-1), vi 11, vi 12]) d68_14 rfl (by decide) rfl ?_
  refine G6 5 X11 K d68_17 (by decide) (by decide) ?_
  refine G1 X11 K d68_5 rfl ?_
  refine G1 X11 K d68_6 rfl ?_
  refine G10 X11 K d68_7 (by decide) ?_
  refine G0 X11 K d68_10 rfl rfl ?_
  refine G1 X11 K d68_11 rfl ?_
  refine G1 X11 K d68_12 rfl ?_
  refine G39 X11 K (vs' := [.int (-1), .int (-1), .int (-1), .int (-1), .int (-1), .int (-1), .int (-1), .int (-1), .int (-1), .int (-1), .int (-1), .int (-1)]) e11 F11 (by decide) (Nat.le_of_ble_eq_true rfl) rfl d68_13 ?_
  intro T12 h12 X12 e12 W12 F12
  obtain ⟨N12, Ol12, Kp12⟩ := ivW N11 Ol11 Kp11 X12 W12 ge_1 (ow 0 rfl)
  refine G22 X12 K (z := 12) (L' := #[vr a1, vi (-1), vi 12, vi 12]) d68_14 rfl (by decide) rfl ?_
  refine G6 5 X12 K d68_17 (by decide) (by decide) ?_
  refine G1 X12 K d68_5 rfl ?_
  refine G1 X12 K d68_6 rfl ?_
  refine G19 20 X12 K d68_7 (by decide) (by decide) (by decide) ?_
  refine G17 X12 K d68_20 (by decide) (by decide) ?_
  have Kp : Keep h0 T12.heap [a1] := by rw [e12]; exact Kp12
  exact ⟨rfl, N12, Kp, (by rw [e12]; exact F12)⟩
theorem rm69_150 (H : Hyp Z a0) (a1 : Addr) (k1 : ClassId) (Ol0 : Old Z (ζ Z) h0) (A_1 : Arv Z h0 a1 k1 .long 12 [.long 0, .long 0, .long 0, .long 0, .long 0, .long 0, .long 0, .long 0, .long 0, .long 0, .long 0, .long 0] (.long 0)) (ge_1 : (ζ Z) ≤ a1) :
    Mt l Z M82 C26 5 none [] ⟨0, 0, 0, 0⟩ #[.ref a1, .long 7] h0 (fun v h L => (v = none ∧ Fr (ζ Z) L ∧ Keep h0 h [a1] ∧ Arv Z h a1 k1 .long 12 [.long 7, .long 7, .long 7, .long 7, .long 7, .long 7, .long 7, .long 7, .long 7, .long 7, .long 7, .long 7] (.long 0))) := by
  refine g_be (pf pn14) (ef_51 a1) fun T0 K X0 e0 => ?_
  refine G3 X0 K (v := 0) d69_0 (by decide) ?_
  refine G24 X0 K (L' := #[vr a1, .val (.long 7), .second, vi 0, un]) d69_1 rfl ?_
  refine G0 X0 K d69_2 rfl rfl ?_
  refine G21 X0 K e0 A_1 d69_3 ?_
  refine G12 X0 K (L' := #[vr a1, .val (.long 7), .second, vi 0, vi 12]) d69_4 rfl ?_
  refine G1 X0 K d69_6 rfl ?_
  refine G4 X0 K d69_7 rfl ?_
  refine G10 X0 K d69_9 (by decide) ?_
  refine G0 X0 K d69_12 rfl rfl ?_
  refine G1 X0 K d69_13 rfl ?_
  refine G43 X0 K d69_14 rfl ?_
  refine G41 X0 K (vs' := [.long 7, .long 0, .long 0, .long 0, .long 0, .long 0, .long 0, .long 0, .long 0, .long 0, .long 0, .long 0]) e0 A_1 (by decide) (Nat.le_of_ble_eq_true rfl) rfl d69_15 ?_
  intro T1 h1 X1 e1 W1 F1
  obtain ⟨N1, Ol1, Kp1⟩ := ivW (Fr.nil _) Ol0 (Keep.refl h0 [a1]) X1 W1 ge_1 (ow 0 rfl)
  refine G22 X1 K (z := 1) (L' := #[vr a1, .val (.long 7), .second, vi 1, vi 12]) d69_16 rfl (by decide) rfl ?_
  refine G6 6 X1 K d69_19 (by decide) (by decide) ?_
  refine G1 X1 K d69_6 rfl ?_
  refine G4 X1 K d69_7 rfl ?_
  refine G10 X1 K d69_9 (by decide) ?_
  refine G0 X1 K d69_12 rfl rfl ?_
  refine G1 X1 K d69_13 rfl ?_
  refine G43 X1 K d69_14 rfl ?_
  refine G41 X1 K (vs' := [.long 7, .long 7, .long 0, .long 0, .long 0, .long 0, .long 0, .long 0, .long 0, .long 0, .long 0, .long 0]) e1 F1 (by decide) (Nat.le_of_ble_eq_true rfl) rfl d69_15 ?_
  intro T2 h2 X2 e2 W2 F2
  obtain ⟨N2, Ol2, Kp2⟩ := ivW N1 Ol1 Kp1 X2 W2 ge_1 (ow 0 rfl)
  refine G22 X2 K (z := 2) (L' := #[vr a1, .val (.long 7), .second, vi 2, vi 12]) d69_16 rfl (by decide) rfl ?_
  refine G6 6 X2 K d69_19 (by decide) (by decide) ?_
  refine G1 X2 K d69_6 rfl ?_
  refine G4 X2 K d69_7 rfl ?_
  refine G10 X2 K d69_9 (by decide) ?_
  refine G0 X2 K d69_12 rfl rfl ?_
  refine G1 X2 K d69_13 rfl ?_
  refine G43 X2 K d69_14 rfl ?_
  refine G41 X2 K (vs' := [.long 7, .long 7, .long 7, .long 0, .long 0, .long 0, .long 0, .long 0, .long 0, .long 0, .long 0, .long 0]) e2 F2 (by decide) (Nat.le_of_ble_eq_true rfl) rfl d69_15 ?_
  intro T3 h3 X3 e3 W3 F3
  obtain ⟨N3, Ol3, Kp3⟩ := ivW N2 Ol2 Kp2 X3 W3 ge_1 (ow 0 rfl)
  refine G22 X3 K (z := 3) (L' := #[vr a1, .val (.long 7), .second, vi 3, vi 12]) d69_16 rfl (by decide) rfl ?_
  refine G6 6 X3 K d69_19 (by decide) (by decide) ?_
  refine G1 X3 K d69_6 rfl ?_
  refine G4 X3 K d69_7 rfl ?_
  refine G10 X3 K d69_9 (by decide) ?_
  refine G0 X3 K d69_12 rfl rfl ?_
  refine G1 X3 K d69_13 rfl ?_
  refine G43 X3 K d69_14 rfl ?_
  refine G41 X3 K (vs' := [.long 7, .long 7, .long 7, .long 7, .long 0, .long 0, .long 0, .long 0, .long 0, .long 0, .long 0, .long 0]) e3 F3 (by decide) (Nat.le_of_ble_eq_true rfl) rfl d69_15 ?_
  intro T4 h4 X4 e4 W4 F4
  obtain ⟨N4, Ol4, Kp4⟩ := ivW N3 Ol3 Kp3 X4 W4 ge_1 (ow 0 rfl)
  refine G22 X4 K (z := 4) (L' := #[vr a1, .val (.long 7), .second, vi 4, vi 12]) d69_16 rfl (by decide) rfl ?_
  refine G6 6 X4 K d69_19 (by decide) (by decide) ?_
  refine G1 X4 K d69_6 rfl ?_
  refine G4 X4 K d69_7 rfl ?_
  refine G10 X4 K d69_9 (by decide) ?_
  refine G0 X4 K d69_12 rfl rfl ?_
  refine G1 X4 K d69_13 rfl ?_
  refine G43 X4 K d69_14 rfl ?_
  refine G41 X4 K (vs' := [.long 7, .long 7, .long 7, .long 7, .long 7, .long 0, .long 0, .long 0, .long 0, .long 0, .long 0, .long 0]) e4 F4 (by decide) (Nat.le_of_ble_eq_true rfl) rfl d69_15 ?_
  intro T5 h5 X5 e5 W5 F5
  obtain ⟨N5, Ol5, Kp5⟩ := ivW N4 Ol4 Kp4 X5 W5 ge_1 (ow 0 rfl)
  refine G22 X5 K (z := 5) (L' := #[vr a1, .val (.long 7), .second, vi 5, vi 12]) d69_16 rfl (by decide) rfl ?_
  refine G6 6 X5 K d69_19 (by decide) (by decide) ?_
  refine G1 X5 K d69_6 rfl ?_
  refine G4 X5 K d69_7 rfl ?_
  refine G10 X5 K d69_9 (by decide) ?_
  refine G0 X5 K d69_12 rfl rfl ?_
  refine G1 X5 K d69_13 rfl ?_
  refine G43 X5 K d69_14 rfl ?_
  refine G41 X5 K (vs' := [.long 7, .long 7, .long 7, .long 7, .long 7, .long 7, .long 0, .long 0, .long 0, .long 0, .long 0, .long 0]) e5 F5 (by decide) (Nat.le_of_ble_eq_true rfl) rfl d69_15 ?_
  intro T6 h6 X6 e6 W6 F6
  obtain ⟨N6, Ol6, Kp6⟩ := ivW N5 Ol5 Kp5 X6 W6 ge_1 (ow 0 rfl)
  refine G22 X6 K (z := 6) (L' := #[vr a1, .val (.long 7), .second, vi 6, vi 12]) d69_16 rfl (by decide) rfl ?_
  refine G6 6 X6 K d69_19 (by decide) (by decide) ?_
  refine G1 X6 K d69_6 rfl ?_
  refine G4 X6 K d69_7 rfl ?_
  refine G10 X6 K d69_9 (by decide) ?_
  refine G0 X6 K d69_12 rfl rfl ?_
  refine G1 X6 K d69_13 rfl ?_
  refine G43 X6 K d69_14 rfl ?_
  refine G41 X6 K (vs' := [.long 7, .long 7, .long 7, .long 7, .long 7, .long 7, .long 7, .long 0, .long 0, .long 0, .long 0, .long 0]) e6 F6 (by decide) (Nat.le_of_ble_eq_true rfl) rfl d69_15 ?_
  intro T7 h7 X7 e7 W7 F7
  obtain ⟨N7, Ol7, Kp7⟩ := ivW N6 Ol6 Kp6 X7 W7 ge_1 (ow 0 rfl)
  refine G22 X7 K (z := 7) (L' := #[vr a1, .val (.long 7), .second, vi 7, vi 12]) d69_16 rfl (by decide) rfl ?_
  refine G6 6 X7 K d69_19 (by decide) (by decide) ?_
  refine G1 X7 K d69_6 rfl ?_
  refine G4 X7 K d69_7 rfl ?_
  refine G10 X7 K d69_9 (by decide) ?_
  refine G0 X7 K d69_12 rfl rfl ?_
  refine G1 X7 K d69_13 rfl ?_
  refine G43 X7 K d69_14 rfl ?_
  refine G41 X7 K (vs' := [.long 7, .long 7, .long 7, .long 7, .long 7, .long 7, .long 7, .long 7, .long 0, .long 0, .long 0, .long 0]) e7 F7 (by decide) (Nat.le_of_ble_eq_true rfl) rfl d69_15 ?_
  intro T8 h8 X8 e8 W8 F8
  obtain ⟨N8, Ol8, Kp8⟩ := ivW N7 Ol7 Kp7 X8 W8 ge_1 (ow 0 rfl)
  refine G22 X8 K (z := 8) (L' := #[vr a1, .val (.long 7), .second, vi 8, vi 12]) d69_16 rfl (by decide) rfl ?_
  refine G6 6 X8 K d69_19 (by decide) (by decide) ?_
  refine G1 X8 K d69_6 rfl ?_
  refine G4 X8 K d69_7 rfl ?_
  refine G10 X8 K d69_9 (by decide) ?_
  refine G0 X8 K d69_12 rfl rfl ?_
  refine G1 X8 K d69_13 rfl ?_
  refine G43 X8 K d69_14 rfl ?_
  refine G41 X8 K (vs' := [.long 7, .long 7, .long 7, .long 7, .long 7, .long 7, .long 7, .long 7, .long 7, .long 0, .long 0, .long 0]) e8 F8 (by decide) (Nat.le_of_ble_eq_true rfl) rfl d69_15 ?_
  intro T9 h9 X9 e9 W9 F9
  obtain ⟨N9, Ol9, Kp9⟩ := ivW N8 Ol8 Kp8 X9 W9 ge_1 (ow 0 rfl)
  refine G22 X9 K (z := 9) (L' := #[vr a1, .val (.long 7), .second, vi 9, vi 12]) d69_16 rfl (by decide) rfl ?_
  refine G6 6 X9 K d69_19 (by decide) (by decide) ?_
  refine G1 X9 K d69_6 rfl ?_
  refine G4 X9 K d69_7 rfl ?_
  refine G10 X9 K d69_9 (by decide) ?_
  refine G0 X9 K d69_12 rfl rfl ?_
  refine G1 X9 K d69_13 rfl ?_
  refine G43 X9 K d69_14 rfl ?_
  refine G41 X9 K (vs' := [.long 7, .long 7, .long 7, .long 7, .long 7, .long 7, .long 7, .long 7, .long 7, .long 7, .long 0, .long 0]) e9 F9 (by decide) (Nat.le_of_ble_eq_true rfl) rfl d69_15 ?_
  intro T10 h10 X10 e10 W10 F10
  obtain ⟨N10, Ol10, Kp10⟩ := ivW N9 Ol9 Kp9 X10 W10 ge_1 (ow 0 rfl)
  refine G22 X10 K (z := 10) (L' := #[vr a1, .val (.long 7), .second, vi 10, vi 12]) d69_16 rfl (by decide) rfl ?_
  refine G6 6 X10 K d69_19 (by decide) (by decide) ?_
  refine G1 X10 K d69_6 rfl ?_
  refine G4 X10 K d69_7 rfl ?_
  refine G10 X10 K d69_9 (by decide) ?_
  refine G0 X10 K d69_12 rfl rfl ?_
  refine G1 X10 K d69_13 rfl ?_
  refine G43 X10 K d69_14 rfl ?_
  refine G41 X10 K (vs' := [.long 7, .long 7, .long 7, .long 7, .long 7, .long 7, .long 7, .long 7, .long 7, .long 7, .long 7, .long 0]) e10 F10 (by decide) (Nat.le_of_ble_eq_true rfl) rfl d69_15 ?_
  intro T11 h11 X11 e11 W11 F11
  obtain ⟨N11, Ol11, Kp11⟩ := ivW N10 Ol10 Kp10 X11 W11 ge_1 (ow 0 rfl)
  refine G22 X11 K (z := 11) (L' := #[vr a1, .val (.long 7), .second, vi 11, vi 12]) d69_16 rfl (by decide) rfl ?_
  refine G6 6 X11 K d69_19 (by decide) (by decide) ?_
  refine G1 X11 K d69_6 rfl ?_
  refine G4 X11 K d69_7 rfl ?_
  refine G10 X11 K d69_9 (by decide) ?_
  refine G0 X11 K d69_12 rfl rfl ?_
  refine G1 X11 K d69_13 rfl ?_
  refine G43 X11 K d69_14 rfl ?_
  refine G41 X11 K (vs' := [.long 7, .long 7, .long 7, .long 7, .long 7, .long 7, .long 7, .long 7, .long 7, .long 7, .long 7, .long 7]) e11 F11 (by decide) (Nat.le_of_ble_eq_true rfl) rfl d69_15 ?_
  intro T12 h12 X12 e12 W12 F12
  obtain ⟨N12, Ol12, Kp12⟩ := ivW N11 Ol11 Kp11 X12 W12 ge_1 (ow 0 rfl)
  refine G22 X12 K (z := 12) (L' := #[vr a1, .val (.long 7), .second, vi 12, vi 12]) d69_16 rfl (by decide) rfl ?_
  refine G6 6 X12 K d69_19 (by decide) (by decide) ?_
  refine G1 X12 K d69_6 rfl ?_
  refine G4 X12 K d69_7 rfl ?_
  refine G19 22 X12 K d69_9 (by decide) (by decide) (by decide) ?_
  refine G17 X12 K d69_22 (by decide) (by decide) ?_
  have Kp : Keep h0 T12.heap [a1] := by rw [e12]; exact Kp12
  exact ⟨rfl, N12, Kp, (by rw [e12]; exact F12)⟩
theorem rm62_151 (H : Hyp Z a0) (a1 a2 a3 a4 a5 a6 a7 a8 a9 a10 a11 a12 a13 a14 a15 : Addr) (k1 : ClassId) (Ol0 : Old Z (ζ Z) h0) (B_1 : Ω10 Z h0 a1 .null .null (.int 0) (.int 0) (.int 0) .null .null .null .null (.int 0) (.int 0) (.int 0)) (ge_1 : (ζ Z) ≤ a1) (B_2 : Ω4 Z h0 a2 (.ref a3) (.ref a4) (.ref a5) (.ref a6) (.int 3) (.ref a7)) (B_3 : Ω6 Z h0 a6 (.ref a8) (.ref a9)) (ge_2 : (ζ Z) ≤ a9) (A_1 : Arv Z h0 a7 k1 (.object Q10) 6 [.ref a10, .ref a11, .ref a12, .ref a13, .ref a14, .ref a15] .null) (ne_1 : a2 ≠ a1) (ne_2 : a6 ≠ a1) (ne_3 : a7 ≠ a1) :
    Mt l Z M75 C1 2 none [] ⟨4, 5, 99, 50⟩ #[.ref a1, .ref a2] h0 (fun v h L => (∃ (b2 b14 b18 b21 b26 : Addr) (kA14 kA18 kA21 kA26 : ClassId), v = none ∧ Fr (ζ Z) L ∧ Keep h0 h [a1] ∧ h0.size ≤ b2 ∧ b2 < b14 ∧ b14 < b18 ∧ b18 < b21 ∧ b21 < b26 ∧ Ω10 Z h a1 (.ref b2) (.ref a2) (.int 3) (.int 2) (.int 6) (.ref b14) (.ref b18) (.ref b21) (.ref b26) (.int 9) (.int 2147483647) (.int 2147483647) ∧ Ω0 Z h b2 (.int 0) (.ref (ad1 Z a0)) (.int 0) ∧ Arv Z h b14 kA14 .byte 36 [.int 0, .int 0, .int 0, .int 0, .int 0, .int 0, .int 0, .int 0, .int 0, .int 0, .int 0, .int 0, .int 0, .int 0, .int 0, .int 0, .int 0, .int 0, .int 0, .int 0, .int 0, .int 0, .int 0, .int 0, .int 0, .int 0, .int 0, .int 0, .int 0, .int 0, .int 0, .int 0, .int 0, .int 0, .int 0, .int 0] (.int 0) ∧ Arv Z h b18 kA18 .int 36 [.int 0, .int 0, .int 0, .int 0, .int 0, .int 0, .int 0, .int 0, .int 0, .int 0, .int 0, .int 0, .int 0, .int 0, .int 0, .int 0, .int 0, .int 0, .int 0, .int 0, .int 0, .int 0, .int 0, .int 0, .int 0, .int 0, .int 0, .int 0, .int 0, .int 0, .int 0, .int 0, .int 0, .int 0, .int 0, .int 0] (.int 0) ∧ Arv Z h b21 kA21 .int 12 [.int (-1), .int (-1), .int (-1), .int (-1), .int (-1), .int (-1), .int (-1), .int (-1), .int (-1), .int (-1), .int (-1), .int (-1)] (.int 0) ∧ Arv Z h b26 kA26 .long 12 [.long 7, .long 7, .long 7, .long 7, .long 7, .long 7, .long 7, .long 7, .long 7, .long 7, .long 7, .long 7] (.long 0))) := by
  refine g_be (pf pn1) (ef_6 a1 a2) fun T0 K X0 e0 => ?_
  have nw_a2 : a2 ∉ [a1] := (ninS ne_1 nin0)
  have nw_a6 : a6 ∉ [a1] := (ninS ne_2 nin0)
  have nw_a7 : a7 ∉ [a1] := (ninS ne_3 nin0)
  refine G0 X0 K d62_0 rfl rfl ?_
  refine G40 X0 K (W := 0) (tw H 479 rfl) (w20 H) (w21 H) e0 rfl d62_1 (by decide) (Nat.le_of_eq rfl) (by decide) ?_
  intro T1 X1 e1
  refine G0 X1 K d62_4 rfl rfl ?_
  refine G27 X1 K (tw H 480 rfl) (w2 H) (w3 H) e1 d62_5 (by decide) (by decide) ?_
  intro T2 h2 b2 X2 e2 E2 z2 A2 D2
  obtain ⟨sz2, ge2, Ol2, Kp2⟩ := ivE Ol0 (Keep.refl h0 [a1]) E2 z2
  have so1 := Sd.one b2
  have O2 := Ω0.new H A2 D2
  refine G9 X2 K d62_8 rfl ?_
  refine G23 X2 K (W := 2) rfl (tw H 481 rfl) (tw H 5 rfl) (w3 H) (tw H 6 rfl) (by decide) (rm1_3 H b2 Ol2 O2 ge2) e2 rfl rfl rfl (lenOf pd_0 rfl) rfl d62_9 (by decide) ?_
  rintro T3 v3 L3 X3 ⟨rfl, N3q, Kc3, g1⟩
  obtain ⟨N3, Ol3, Kp3⟩ := ivK (Fr.nil _) Ol2 Kp2 N3q Kc3 (allS ge2 all0) (kaS (Or.inr sz2) all0)
  show Go _ _ _ _ _ (mkF _ _ _ [.ref b2, .ref a1])
  have ne1 : a1 ≠ b2 := (Nat.ne_of_lt (Nat.lt_of_lt_of_le B_1.lt sz2))
  have f1 := ((B_1.ext E2).keep Kc3 (ninS ne1 nin0))
  refine G5 X3 K (w482 H) Via.refl rfl f1.2.1 f1.1 (Or.inr ⟨(tw H 483 rfl), rfl, rfl⟩) (w474 H) (ty := (.object Q19)) (by decide) rfl rfl d62_12 ?_
  intro T4 h4 X4 e4 W4 F4
  obtain ⟨N4, Ol4, Kp4⟩ := ivW N3 Ol3 Kp3 X4 W4 ge_1 (ow 0 rfl)
  have O4 := Ω10.s0 H f1 W4
  refine G0 X4 K d62_15 rfl rfl ?_
  refine G0 X4 K d62_16 rfl rfl ?_
  refine G5 X4 K (w484 H) Via.refl e4 O4.2.2.1 O4.1 (Or.inr ⟨(tw H 485 rfl), rfl, rfl⟩) (w474 H) (ty := (.object Q4)) (by decide) rfl rfl d62_17 ?_
  intro T5 h5 X5 e5 W5 F5
  obtain ⟨N5, Ol5, Kp5⟩ := ivW N4 Ol4 Kp4 X5 W5 ge_1 (ow 0 rfl)
  have O5 := Ω10.s1 H O4 W5
  refine G0 X5 K d62_20 rfl rfl ?_
  refine G0 X5 K d62_21 rfl rfl ?_
  have f2 := B_2.keep Kp5 nw_a2
  refine G8 X5 K (W := 1) (tw H 486 rfl) (tw H 487 rfl) (nf_self K (tw H 489 rfl)) (tw H 489 rfl) (tw H 488 rfl) (w204 H) (tw H 490 rfl) (by decide) (rm63_144 H a2 a3 a4 a5 a6 a7 Ol5 f2) e5 f2.1 rfl rfl rfl (lenOf pd_23 rfl) rfl d62_22 (by decide) ?_
  rintro T6 v6 L6 X6 ⟨rfl, N6q, e6⟩
  have N6 := Fr.app N5 N6q
  show Go _ _ _ _ _ (mkF _ _ _ [.int 3, .ref a1])
  refine G5 X6 K (tw H 491 rfl) Via.refl e6 O5.2.2.2.1 O5.1 (Or.inr ⟨(tw H 492 rfl), rfl, rfl⟩) (w474 H) (ty := .int) (by decide) rfl rfl d62_25 ?_
  intro T7 h7 X7 e7 W7 F7
  obtain ⟨N7, Ol7, Kp7⟩ := ivW N6 Ol5 Kp5 X7 W7 ge_1 (ow 0 rfl)
  have O7 := Ω10.s2 H O5 W7
  refine G0 X7 K d62_28 rfl rfl ?_
  refine G0 X7 K d62_29 rfl rfl ?_
  have f3 := B_2.keep Kp7 nw_a2
  have f4 := B_3.keep Kp7 nw_a6
  refine G8 X7 K (W := 1) (tw H 493 rfl) (tw H 494 rfl) (nf_self K (tw H 496 rfl)) (tw H 496 rfl) (tw H 495 rfl) (w204 H) (tw H 497 rfl) (by decide) (rm64_146 H a2 a3 a4 a5 a6 a7 a8 a9 Ol7 f3 f4 ge_2) e7 f3.1 rfl rfl rfl (lenOf pd_23 rfl) rfl d62_30 (by decide) ?_
  rintro T8 v8 L8 X8 ⟨rfl, N8q, e8⟩
  have N8 := Fr.app N7 N8q
  show Go _ _ _ _ _ (mkF _ _ _ [.int 2, .ref a1])
  refine G5 X8 K (w505 H) Via.refl e8 O7.2.2.2.2.1 O7.1 (Or.inr ⟨(tw H 506 rfl), rfl, rfl⟩) (w474 H) (ty := .int) (by decide) rfl rfl d62_33 ?_
  intro T9 h9 X9 e9 W9 F9
  obtain ⟨N9, Ol9, Kp9⟩ := ivW N8 Ol7 Kp7 X9 W9 ge_1 (ow 0 rfl)
  have O9 := Ω10.s3 H O7 W9
  refine G0 X9 K d62_36 rfl rfl ?_
  refine G0 X9 K d62_37 rfl rfl ?_
  have f5 := B_2.keep Kp9 nw_a2
  have f6 := A_1.keep Kp9 nw_a7
  refine G8 X9 K (W := 1) (tw H 507 rfl) (tw H 508 rfl) (nf_self K (tw H 510 rfl)) (tw H 510 rfl) (tw H 509 rfl) (w204 H) (tw H 511 rfl) (by decide) (rm66_147 H a2 a3 a4 a5 a6 a7 a10 a11 a12 a13 a14 a15 k1 Ol9 f5 f6) e9 f5.1 rfl rfl rfl (lenOf pd_23 rfl) rfl d62_38 (by decide) ?_
  rintro T10 v10 L10 X10 ⟨rfl, N10q, e10⟩
  have N10 := Fr.app N9 N10q
  show Go _ _ _ _ _ (mkF _ _ _ [.int 6, .ref a1])
  refine G5 X10 K (w512 H) Via.refl e10 O9.2.2.2.2.2.1 O9.1 (Or.inr ⟨(tw H 513 rfl), rfl, rfl⟩) (w474 H) (ty := .int) (by decide) rfl rfl d62_41 ?_
  intro T11 h11 X11 e11 W11 F11
  obtain ⟨N11, Ol11, Kp11⟩ := ivW N10 Ol9 Kp9 X11 W11 ge_1 (ow 0 rfl)
  have O11 := Ω10.s4 H O9 W11
  refine G0 X11 K d62_44 rfl rfl ?_
  refine G0 X11 K d62_45 rfl rfl ?_
  refine G2 X11 K (w512 H) Via.refl e11 O11.2.2.2.2.2.1 d62_46 ?_
  intro T12 X12 e12
  refine G0 X12 K d62_49 rfl rfl ?_
  refine G2 X12 K (w512 H) Via.refl e12 O11.2.2.2.2.2.1 d62_50 ?_
  intro T13 X13 e13
  refine G48 X13 K d62_53 (z := 36) (by decide) ?_
  refine G35 X13 K (cap := 36) (ty := .byte) (vs := [.int 0, .int 0, .int 0, .int 0, .int 0, .int 0, .int 0, .int 0, .int 0, .int 0, .int 0, .int 0, .int 0, .int 0, .int 0, .int 0, .int 0, .int 0, .int 0, .int 0, .int 0, .int 0, .int 0, .int 0, .int 0, .int 0, .int 0, .int 0, .int 0, .int 0, .int 0, .int 0, .int 0, .int 0, .int 0, .int 0]) (w30 H) rfl e13 d62_54 (by decide) (by decide) rfl (by decide) (by decide) (by decide) ?_
  intro T14 h14 b14 kA14 X14 e14 E14 z14 A14
  have f7 := (((((g1.other W4 (Ne.symm ne1)).other W5 (Ne.symm ne1)).other W7 (Ne.symm ne1)).other W9 (Ne.symm ne1)).other W11 (Ne.symm ne1))
  obtain ⟨sz14, ge14, Ol14, Kp14⟩ := ivE Ol11 Kp11 E14 z14
  have lk14 := Nat.lt_of_lt_of_eq f7.lt z14
  have so2 := so1.cons lk14
  have f8 := (O11.ext E14)
  refine G5 X14 K (w514 H) Via.refl e14 f8.2.2.2.2.2.2.1 f8.1 (Or.inr ⟨(tw H 515 rfl), rfl, rfl⟩) (w474 H) (ty := (.array .byte)) (by decide) rfl rfl d62_56 ?_
  intro T15 h15 X15 e15 W15 F15
  obtain ⟨N15, Ol15, Kp15⟩ := ivW N11 Ol14 Kp14 X15 W15 ge_1 (ow 0 rfl)
  have O15 := Ω10.s5 H f8 W15
  refine G0 X15 K d62_59 rfl rfl ?_
  refine G0 X15 K d62_60 rfl rfl ?_
  refine G2 X15 K (w512 H) Via.refl e15 O15.2.2.2.2.2.1 d62_61 ?_
  intro T16 X16 e16
  refine G0 X16 K d62_64 rfl rfl ?_
  refine G2 X16 K (w512 H) Via.refl e16 O15.2.2.2.2.2.1 d62_65 ?_
  intro T17 X17 e17
  refine G48 X17 K d62_68 (z := 36) (by decide) ?_
  refine G35 X17 K (cap := 36) (ty := .int) (vs := [.int 0, .int 0, .int 0, .int 0, .int 0, .int 0, .int 0, .int 0, .int 0, .int 0, .int 0, .int 0, .int 0, .int 0, .int 0, .int 0, .int 0, .int 0, .int 0, .int 0, .int 0, .int 0, .int 0, .int 0, .int 0, .int 0, .int 0, .int 0, .int 0, .int 0, .int 0, .int 0, .int 0, .int 0, .int 0, .int 0]) (w516 H) rfl e17 d62_69 (by decide) (by decide) rfl (by decide) (by decide) (by decide) ?_
  intro T18 h18 b18 kA18 X18 e18 E18 z18 A18
  have ne2 : a1 ≠ b14 := (Nat.ne_of_lt (Nat.lt_of_lt_of_le B_1.lt sz14))
  have f9 := (A14.other W15 (Ne.symm ne2))
  obtain ⟨sz18, ge18, Ol18, Kp18⟩ := ivE Ol15 Kp15 E18 z18
  have lk18 := Nat.lt_of_lt_of_eq f9.lt z18
  have so3 := so2.cons lk18
  have f10 := (O15.ext E18)
  refine G5 X18 K (tw H 517 rfl) Via.refl e18 f10.2.2.2.2.2.2.2.1 f10.1 (Or.inr ⟨(tw H 518 rfl), rfl, rfl⟩) (w474 H) (ty := (.array .int)) (by decide) rfl rfl d62_71 ?_
  intro T19 h19 X19 e19 W19 F19
  obtain ⟨N19, Ol19, Kp19⟩ := ivW N15 Ol18 Kp18 X19 W19 ge_1 (ow 0 rfl)
  have O19 := Ω10.s6 H f10 W19
  refine G0 X19 K d62_74 rfl rfl ?_
  refine G0 X19 K d62_75 rfl rfl ?_
  have f11 := B_2.keep Kp19 nw_a2
  have f12 := A_1.keep Kp19 nw_a7
  have f13 := B_3.keep Kp19 nw_a6
  refine G8 X19 K (W := 1) (tw H 519 rfl) (tw H 520 rfl) (nf_self K (tw H 522 rfl)) (tw H 522 rfl) (tw H 521 rfl) (w204 H) (tw H 523 rfl) (by decide) (rm67_148 H a2 a3 a4 a5 a6 a7 a10 a11 a12 a13 a14 a15 k1 a8 a9 Ol19 f11 f12 f13 ge_2) e19 f11.1 rfl rfl rfl (lenOf pd_23 rfl) rfl d62_76 (by decide) ?_
  rintro T20 v20 L20 X20 ⟨rfl, N20q, e20⟩
  have N20 := Fr.app N19 N20q
  show Go _ _ _ _ _ (mkF _ _ _ [.int 12, .ref a1])
  refine G35 X20 K (cap := 12) (ty := .int) (vs := [.int 0, .int 0, .int 0, .int 0, .int 0, .int 0, .int 0, .int 0, .int 0, .int 0, .int 0, .int 0]) (w516 H) rfl e20 d62_79 (by decide) (by decide) rfl (by decide) (by decide) (by decide) ?_
  intro T21 h21 b21 kA21 X21 e21 E21 z21 A21
  have ne3 : a1 ≠ b18 := (Nat.ne_of_lt (Nat.lt_of_lt_of_le B_1.lt sz18))
  have f14 := (A18.other W19 (Ne.symm ne3))
  obtain ⟨sz21, ge21, Ol21, Kp21⟩ := ivE Ol19 Kp19 E21 z21
  have lk21 := Nat.lt_of_lt_of_eq f14.lt z21
  have so4 := so3.cons lk21
  have f15 := (O19.ext E21)
  refine G5 X21 K (w524 H) Via.refl e21 f15.2.2.2.2.2.2.2.2.1 f15.1 (Or.inr ⟨(tw H 525 rfl), rfl, rfl⟩) (w474 H) (ty := (.array .int)) (by decide) rfl rfl d62_81 ?_
  intro T22 h22 X22 e22 W22 F22
  obtain ⟨N22, Ol22, Kp22⟩ := ivW N20 Ol21 Kp21 X22 W22 ge_1 (ow 0 rfl)
  have O22 := Ω10.s7 H f15 W22
  refine G0 X22 K d62_84 rfl rfl ?_
  refine G2 X22 K (w524 H) Via.refl e22 O22.2.2.2.2.2.2.2.2.1 d62_85 ?_
  intro T23 X23 e23
  refine G3 X23 K (v := (-1)) d62_88 (by decide) ?_
  have ne4 : a1 ≠ b21 := (Nat.ne_of_lt (Nat.lt_of_lt_of_le B_1.lt sz21))
  have f16 := (A21.other W22 (Ne.symm ne4))
  refine G14 X23 K (W := 0) (tw H 526 rfl) (tw H 527 rfl) (w134 H) (tw H 528 rfl) (by decide) (rm68_149 H b21 kA21 Ol22 f16 ge21) e23 rfl rfl rfl (lenOf pd_37 rfl) rfl d62_89 (by decide) ?_
  rintro T24 v24 L24 X24 ⟨rfl, N24q, Kc24, g2⟩
  obtain ⟨N24, Ol24, Kp24⟩ := ivK N22 Ol22 Kp22 N24q Kc24 (allS ge21 all0) (kaS (Or.inr sz21) all0)
  show Go _ _ _ _ _ (mkF _ _ _ [])
  refine G0 X24 K d62_92 rfl rfl ?_
  refine G0 X24 K d62_93 rfl rfl ?_
  have f17 := B_2.keep Kp24 nw_a2
  have f18 := A_1.keep Kp24 nw_a7
  have f19 := B_3.keep Kp24 nw_a6
  refine G8 X24 K (W := 1) (tw H 519 rfl) (tw H 520 rfl) (nf_self K (tw H 522 rfl)) (tw H 522 rfl) (tw H 521 rfl) (w204 H) (tw H 523 rfl) (by decide) (rm67_148 H a2 a3 a4 a5 a6 a7 a10 a11 a12 a13 a14 a15 k1 a8 a9 Ol24 f17 f18 f19 ge_2) rfl f17.1 rfl rfl rfl (lenOf pd_23 rfl) rfl d62_94 (by decide) ?_
  rintro T25 v25 L25 X25 ⟨rfl, N25q, e25⟩
  have N25 := Fr.app N24 N25q
  show Go _ _ _ _ _ (mkF _ _ _ [.int 12, .ref a1])
  refine G35 X25 K (cap := 12) (ty := .long) (vs := [.long 0, .long 0, .long 0, .long 0, .long 0, .long 0, .long 0, .long 0, .long 0, .long 0, .long 0, .long 0]) (tw H 529 rfl) rfl e25 d62_97 (by decide) (by decide) rfl (by decide) (by decide) (by decide) ?_
  intro T26 h26 b26 kA26 X26 e26 E26 z26 A26
  obtain ⟨sz26, ge26, Ol26, Kp26⟩ := ivE Ol24 Kp24 E26 z26
  have lk26 := Nat.lt_of_lt_of_eq g2.lt z26
  have so5 := so4.cons lk26
  have f20 := ((O22.keep Kc24 (ninS ne4 nin0)).ext E26)
  refine G5 X26 K (w530 H) Via.refl e26 f20.2.2.2.2.2.2.2.2.2.1 f20.1 (Or.inr ⟨(tw H 531 rfl), rfl, rfl⟩) (w474 H) (ty := (.array .long)) (by decide) rfl rfl d62_99 ?_
  intro T27 h27 X27 e27 W27 F27
  obtain ⟨N27, Ol27, Kp27⟩ := ivW N25 Ol26 Kp26 X27 W27 ge_1 (ow 0 rfl)
  have O27 := Ω10.s8 H f20 W27
  refine G0 X27 K d62_102 rfl rfl ?_
  refine G2 X27 K (w530 H) Via.refl e27 O27.2.2.2.2.2.2.2.2.2.1 d62_103 ?_
  intro T28 X28 e28
  refine G60 X28 K (v := 1) d62_106 (by decide) ?_
  refine G0 X28 K d62_107 rfl rfl ?_
  refine G2 X28 K (tw H 491 rfl) Via.refl e28 O27.2.2.2.1 d62_108 ?_
  intro T29 X29 e29
  refine G70 X29 K d62_111 (z := 8) (by decide) ?_
  refine G60 X29 K (v := 1) d62_112 (by decide) ?_
  refine G89 X29 K d62_113 (z := 7) (by decide) ?_
  have ne5 : a1 ≠ b26 := (Nat.ne_of_lt (Nat.lt_of_lt_of_le B_1.lt sz26))
  have f21 := (A26.other W27 (Ne.symm ne5))
  refine G14 X29 K (W := 0) (tw H 532 rfl) (tw H 533 rfl) (w134 H) (tw H 534 rfl) (by decide) (rm69_150 H b26 kA26 Ol27 f21 ge26) e29 rfl rfl rfl (lenOf pd_38 rfl) rfl d62_114 (by decide) ?_
  rintro T30 v30 L30 X30 ⟨rfl, N30q, Kc30, g3⟩
  obtain ⟨N30, Ol30, Kp30⟩ := ivK N27 Ol27 Kp27 N30q Kc30 (allS ge26 all0) (kaS (Or.inr sz26) all0)
  show Go _ _ _ _ _ (mkF _ _ _ [])
  refine G0 X30 K d62_117 rfl rfl ?_
  refine G0 X30 K d62_118 rfl rfl ?_
  have f22 := (O27.keep Kc30 (ninS ne5 nin0))
  refine G2 X30 K (w512 H) Via.refl rfl f22.2.2.2.2.2.1 d62_119 ?_
  intro T31 X31 e31
  refine G0 X31 K d62_122 rfl rfl ?_
  refine G2 X31 K (w512 H) Via.refl e31 f22.2.2.2.2.2.1 d62_123 ?_
  intro T32 X32 e32
  refine G0 X32 K d62_126 rfl rfl ?_
  refine G2 X32 K (tw H 491 rfl) Via.refl e32 f22.2.2.2.1 d62_127 ?_
  intro T33 X33 e33
  refine G45 X33 K d62_130 (z := 3) (by decide) ?_
  refine G48 X33 K d62_131 (z := 18) (by decide) ?_
  refine G3 X33 K (v := 2) d62_132 (by decide) ?_
  refine G75 X33 K d62_133 (by decide) (z := 9) (by decide) ?_
  refine G5 X33 K (tw H 535 rfl) Via.refl e33 f22.2.2.2.2.2.2.2.2.2.2.1 f22.1 (Or.inr ⟨(tw H 536 rfl), rfl, rfl⟩) (w474 H) (ty := .int) (by decide) rfl rfl d62_134 ?_
  intro T34 h34 X34 e34 W34 F34
  obtain ⟨N34, Ol34, Kp34⟩ := ivW N30 Ol30 Kp30 X34 W34 ge_1 (ow 0 rfl)
  have O34 := Ω10.s9 H f22 W34
  refine G0 X34 K d62_137 rfl rfl ?_
  refine G50 X34 K (tw H 537 rfl) d62_138 ?_
  refine G5 X34 K (tw H 538 rfl) Via.refl e34 O34.2.2.2.2.2.2.2.2.2.2.2.1 O34.1 (Or.inr ⟨(tw H 539 rfl), rfl, rfl⟩) (w474 H) (ty := .int) (by decide) rfl rfl d62_140 ?_
  intro T35 h35 X35 e35 W35 F35
  obtain ⟨N35, Ol35, Kp35⟩ := ivW N34 Ol34 Kp34 X35 W35 ge_1 (ow 0 rfl)
  have O35 := Ω10.s10 H O34 W35
  refine G0 X35 K d62_143 rfl rfl ?_
  refine G50 X35 K (tw H 537 rfl) d62_144 ?_
  refine G5 X35 K (tw H 540 rfl) Via.refl e35 O35.2.2.2.2.2.2.2.2.2.2.2.2 O35.1 (Or.inl (tw H 541 rfl)) (w474 H) (ty := .int) (by decide) rfl rfl d62_146 ?_
  intro T36 h36 X36 e36 W36 F36
  obtain ⟨N36, Ol36, Kp36⟩ := ivW N35 Ol35 Kp35 X36 W36 ge_1 (ow 0 rfl)
  have O36 := Ω10.s11 H O35 W36
  refine G17 X36 K d62_149 (by decide) (by decide) ?_
  have Kp : Keep h0 T36.heap [a1] := by rw [e36]; exact Kp36
  have kb1 := Keep.cat (Keep.of_wr W15) (Keep.ofE E18) [a1] [0] [] rfl rfl
  have kb2 := Keep.cat (Keep.of_wr W19) (Keep.ofE E21) [a1] [0] [] rfl rfl
  have kb3 := Keep.cat kb1 kb2 [a1] [0] [0] rfl rfl
  have kb4 := Keep.cat (Keep.of_wr W22) Kc24 [a1, b21] [0] [1] rfl rfl
  have kb5 := Keep.cat (Keep.ofE E26) (Keep.of_wr W27) [a1] [] [0] rfl rfl
  have kb6 := Keep.cat kb4 kb5 [a1, b21] [0, 1] [0] rfl rfl
  have kb7 := Keep.cat kb3 kb6 [a1, b21] [0] [0, 1] rfl rfl
  have ne6 := so5.ne 4 1 rfl rfl rfl
  have kb8 := Keep.cat Kc30 (Keep.of_wr W34) [b26, a1] [0] [1] rfl rfl
  have kb9 := Keep.cat (Keep.of_wr W35) (Keep.of_wr W36) [a1] [0] [0] rfl rfl
  have kb10 := Keep.cat kb8 kb9 [b26, a1] [0, 1] [1] rfl rfl
  have ne7 := so5.ne 4 0 rfl rfl rfl
  have f23 := (((f7.ext E14).keep kb7 (ninS (Ne.symm ne1) (ninS ne6 nin0))).keep kb10 (ninS ne7 (ninS (Ne.symm ne1) nin0)))
  have ne8 := so5.ne 3 1 rfl rfl rfl
  have ne9 := so5.ne 3 0 rfl rfl rfl
  have f24 := (((((f9.ext E18).other W19 (Ne.symm ne2)).ext E21).keep kb6 (ninS (Ne.symm ne2) (ninS ne8 nin0))).keep kb10 (ninS ne9 (ninS (Ne.symm ne2) nin0)))
  have ne10 := so5.ne 2 1 rfl rfl rfl
  have ne11 := so5.ne 2 0 rfl rfl rfl
  have f25 := (((f14.ext E21).keep kb6 (ninS (Ne.symm ne3) (ninS ne10 nin0))).keep kb10 (ninS ne11 (ninS (Ne.symm ne3) nin0)))
  have ne12 := so5.ne 1 0 rfl rfl rfl
  have f26 := (((g2.ext E26).other W27 (Ne.symm ne4)).keep kb10 (ninS ne12 (ninS (Ne.symm ne4) nin0)))
  have f27 := (((g3.other W34 (Ne.symm ne5)).other W35 (Ne.symm ne5)).other W36 (Ne.symm ne5))
  exact ⟨b2, b14, b18, b21, b26, kA14, kA18, kA21, kA26, rfl, N36, Kp, sz2, lk14, lk18, lk21, lk26, (by rw [e36]; exact O36), (by rw [e36]; exact f23), (by rw [e36]; exact f24), (by rw [e36]; exact f25), (by rw [e36]; exact f26), (by rw [e36]; exact f27)⟩
theorem rm71_152 (H : Hyp Z a0) (a1 : Addr) (p1 p2 : Int32) (a2 a3 a4 a5 a6 a7 : Addr) (Ol0 : Old Z (ζ Z) h0) (hc_1 : p1 < p2) (B_1 : Ω10 Z h0 a1 (.ref a2) (.ref a3) (.int 3) (.int 2) (.int 6) (.ref a4) (.ref a5) (.ref a6) (.ref a7) (.int 9) (.int 2147483647) (.int 2147483647)) :
    Mt l Z M84 C19 3 (some .int) [] ⟨0, 0, 0, 0⟩ #[.ref a1, .int p1, .int p2] h0 (fun v h L => (v = some (.int ((p1 * 6) + p2)) ∧ Fr (ζ Z) L ∧ h = h0)) := by
  refine g_be (pf pn1) (ef_52 a1 p1 p2) fun T0 K X0 e0 => ?_
  refine G1 X0 K d71_0 rfl ?_
  refine G1 X0 K d71_1 rfl ?_
  refine G10 X0 K d71_2 (tlt hc_1).2.1 ?_
  refine G1 X0 K d71_5 rfl ?_
  refine G0 X0 K d71_6 rfl rfl ?_
  refine G2 X0 K (w512 H) Via.refl e0 B_1.2.2.2.2.2.1 d71_7 ?_
  intro T1 X1 e1
  refine G48 X1 K d71_10 rfl ?_
  refine G1 X1 K d71_11 rfl ?_
  refine G16 X1 K d71_12 rfl ?_
  refine G6 24 X1 K d71_13 (by decide) (by decide) ?_
  refine G18 X1 K d71_24 (by decide) (by decide) ?_
  exact ⟨rfl, (Fr.nil _), e1⟩
theorem rm70_153 (H : Hyp Z a0) (a1 : Addr) (p1 p2 p3 : Int32) (a2 a3 a4 a5 a6 a7 : Addr) (u1 : List Value) (k1 : ClassId) (p4 : Int32) (u2 : List Value) (k2 : ClassId) (p5 : Int32) (Ol0 : Old Z (ζ Z) h0) (hc_1 : p1 < p2) (B_1 : Ω10 Z h0 a1 (.ref a2) (.ref a3) (.int 3) (.int 2) (.int 6) (.ref a4) (.ref a5) (.ref a6) (.ref a7) (.int 9) (.int 2147483647) (.int 2147483647)) (A_1 : Arv Z h0 a4 k1 .byte 36 u1 (.int 0)) (rd_1 : u1.getD ((p1 * 6) + p2).toNatClampNeg (.int 0) = .int p4) (ri_1 : ¬ ((p1 * 6) + p2) < 0 ∧ ((p1 * 6) + p2) < 36) (A_2 : Arv Z h0 a5 k2 .int 36 u2 (.int 0)) (rd_2 : u2.getD ((p1 * 6) + p2).toNatClampNeg (.int 0) = .int p5) :
    Mt l Z M83 C11 5 (some .int) [] ⟨1, 0, 0, 14⟩ #[.ref a1, .int p1, .int p2, .int p3] h0 (fun v h L => (p4 = (vl p3) ∧ v = some (.int p5) ∧ Fr (ζ Z) L ∧ h = h0) ∨ (¬ (p4 = (vl p3)) ∧ v = some (.int 2147483647) ∧ Fr (ζ Z) L ∧ h = h0)) := by
  refine g_be (pf pn1) (ef_53 a1 p1 p2 p3) fun T0 K X0 e0 => ?_
  refine G0 X0 K d70_0 rfl rfl ?_
  refine G1 X0 K d70_1 rfl ?_
  refine G1 X0 K d70_2 rfl ?_
  refine G8 X0 K (W := 0) (tw H 547 rfl) (tw H 548 rfl) (nf_self K (w550 H)) (w550 H) (tw H 549 rfl) (w475 H) (tw H 551 rfl) (by decide) (rm71_152 H a1 p1 p2 a2 a3 a4 a5 a6 a7 Ol0 hc_1 B_1) e0 B_1.1 rfl rfl rfl (lenOf pd_5 rfl) rfl d70_3 (by decide) ?_
  rintro T1 v1 L1 X1 ⟨rfl, N1q, e1⟩
  have N1 := Fr.app (Fr.nil _) N1q
  show Go _ _ _ _ _ (mkF _ _ _ [(.int ((p1 * 6) + p2))])
  refine G12 X1 K (L' := #[vr a1, vi p1, vi p2, vi p3, vi ((p1 * 6) + p2)]) d70_6 rfl ?_
  refine G0 X1 K d70_8 rfl rfl ?_
  refine G2 X1 K (w514 H) Via.refl e1 B_1.2.2.2.2.2.2.1 d70_9 ?_
  intro T2 X2 e2
  refine G4 X2 K d70_12 rfl ?_
  refine G42 X2 K (v := (.int p4)) e2 A_1 ri_1 rd_1 d70_14 ?_
  refine G1 X2 K d70_15 rfl ?_
  refine G44 X2 K (q := 24) (v := (vl p3)) d70_16 d70_19 d70_20 d70_23 (u := 1) (w := 2) (by decide) (by decide) rfl rfl ?_
  by_cases hc1 : p4 = (vl p3)
  · refine G10 X2 K d70_24 (teq hc1).2 ?_
    refine G0 X2 K d70_27 rfl rfl ?_
    refine G2 X2 K (tw H 517 rfl) Via.refl e2 B_1.2.2.2.2.2.2.2.1 d70_28 ?_
    intro T3 X3 e3
    refine G4 X3 K d70_31 rfl ?_
    refine G67 X3 K (v := (.int p5)) e3 A_2 ri_1 rd_2 d70_33 ?_
    refine G6 39 X3 K d70_34 (by decide) (by decide) ?_
    refine G18 X3 K d70_39 (by decide) (by decide) ?_
    exact Or.inl (⟨hc1, rfl, N1, e3⟩)
  · refine G19 37 X2 K d70_24 (feq hc1).2 (by decide) (by decide) ?_
    refine G50 X2 K (tw H 537 rfl) d70_37 ?_
    refine G18 X2 K d70_39 (by decide) (by decide) ?_
    exact Or.inr (⟨hc1, rfl, N1, e2⟩)
theorem rm71_154 (H : Hyp Z a0) (a1 : Addr) (p1 p2 : Int32) (a2 a3 a4 a5 a6 a7 : Addr) (Ol0 : Old Z (ζ Z) h0) (hc_1 : ¬ (p1 < p2)) (B_1 : Ω10 Z h0 a1 (.ref a2) (.ref a3) (.int 3) (.int 2) (.int 6) (.ref a4) (.ref a5) (.ref a6) (.ref a7) (.int 9) (.int 2147483647) (.int 2147483647)) :
    Mt l Z M84 C19 3 (some .int) [] ⟨0, 0, 0, 0⟩ #[.ref a1, .int p1, .int p2] h0 (fun v h L => (v = some (.int ((p2 * 6) + p1)) ∧ Fr (ζ Z) L ∧ h = h0)) := by
  refine g_be (pf pn1) (ef_52 a1 p1 p2) fun T0 K X0 e0 => ?_
  refine G1 X0 K d71_0 rfl ?_
  refine G1 X0 K d71_1 rfl ?_
  refine G19 16 X0 K d71_2 (flt hc_1).2.1 (by decide) (by decide) ?_
  refine G1 X0 K d71_16 rfl ?_
  refine G0 X0 K d71_17 rfl rfl ?_
  refine G2 X0 K (w512 H) Via.refl e0 B_1.2.2.2.2.2.1 d71_18 ?_
  intro T1 X1 e1
  refine G48 X1 K d71_21 rfl ?_
  refine G1 X1 K d71_22 rfl ?_
  refine G16 X1 K d71_23 rfl ?_
  refine G18 X1 K d71_24 (by decide) (by decide) ?_
  exact ⟨rfl, (Fr.nil _), e1⟩
theorem rm70_155 (H : Hyp Z a0) (a1 : Addr) (p1 p2 p3 : Int32) (a2 a3 a4 a5 a6 a7 : Addr) (u1 : List Value) (k1 : ClassId) (p4 : Int32) (u2 : List Value) (k2 : ClassId) (p5 : Int32) (Ol0 : Old Z (ζ Z) h0) (hc_1 : ¬ (p1 < p2)) (B_1 : Ω10 Z h0 a1 (.ref a2) (.ref a3) (.int 3) (.int 2) (.int 6) (.ref a4) (.ref a5) (.ref a6) (.ref a7) (.int 9) (.int 2147483647) (.int 2147483647)) (A_1 : Arv Z h0 a4 k1 .byte 36 u1 (.int 0)) (rd_1 : u1.getD ((p2 * 6) + p1).toNatClampNeg (.int 0) = .int p4) (ri_1 : ¬ ((p2 * 6) + p1) < 0 ∧ ((p2 * 6) + p1) < 36) (A_2 : Arv Z h0 a5 k2 .int 36 u2 (.int 0)) (rd_2 : u2.getD ((p2 * 6) + p1).toNatClampNeg (.int 0) = .int p5) :
    Mt l Z M83 C11 5 (some .int) [] ⟨1, 0, 0, 14⟩ #[.ref a1, .int p1, .int p2, .int p3] h0 (fun v h L => (p4 = (vl p3) ∧ v = some (.int p5) ∧ Fr (ζ Z) L ∧ h = h0) ∨ (¬ (p4 = (vl p3)) ∧ v = some (.int 2147483647) ∧ Fr (ζ Z) L ∧ h = h0)) := by
  refine g_be (pf pn1) (ef_53 a1 p1 p2 p3) fun T0 K X0 e0 => ?_
  refine G0 X0 K d70_0 rfl rfl ?_
  refine G1 X0 K d70_1 rfl ?_
  refine G1 X0 K d70_2 rfl ?_
  refine G8 X0 K (W := 0) (tw H 547 rfl) (tw H 548 rfl) (nf_self K (w550 H)) (w550 H) (tw H 549 rfl) (w475 H) (tw H 551 rfl) (by decide) (rm71_154 H a1 p1 p2 a2 a3 a4 a5 a6 a7 Ol0 hc_1 B_1) e0 B_1.1 rfl rfl rfl (lenOf pd_5 rfl) rfl d70_3 (by decide) ?_
  rintro T1 v1 L1 X1 ⟨rfl, N1q, e1⟩
  have N1 := Fr.app (Fr.nil _) N1q
  show Go _ _ _ _ _ (mkF _ _ _ [(.int ((p2 * 6) + p1))])
  refine G12 X1 K (L' := #[vr a1, vi p1, vi p2, vi p3, vi ((p2 * 6) + p1)]) d70_6 rfl ?_
  refine G0 X1 K d70_8 rfl rfl ?_
  refine G2 X1 K (w514 H) Via.refl e1 B_1.2.2.2.2.2.2.1 d70_9 ?_
  intro T2 X2 e2
  refine G4 X2 K d70_12 rfl ?_
  refine G42 X2 K (v := (.int p4)) e2 A_1 ri_1 rd_1 d70_14 ?_
  refine G1 X2 K d70_15 rfl ?_
  refine G44 X2 K (q := 24) (v := (vl p3)) d70_16 d70_19 d70_20 d70_23 (u := 1) (w := 2) (by decide) (by decide) rfl rfl ?_
  by_cases hc1 : p4 = (vl p3)
  · refine G10 X2 K d70_24 (teq hc1).2 ?_
    refine G0 X2 K d70_27 rfl rfl ?_
    refine G2 X2 K (tw H 517 rfl) Via.refl e2 B_1.2.2.2.2.2.2.2.1 d70_28 ?_
    intro T3 X3 e3
    refine G4 X3 K d70_31 rfl ?_
    refine G67 X3 K (v := (.int p5)) e3 A_2 ri_1 rd_2 d70_33 ?_
    refine G6 39 X3 K d70_34 (by decide) (by decide) ?_
    refine G18 X3 K d70_39 (by decide) (by decide) ?_
    exact Or.inl (⟨hc1, rfl, N1, e3⟩)
  · refine G19 37 X2 K d70_24 (feq hc1).2 (by decide) (by decide) ?_
    refine G50 X2 K (tw H 537 rfl) d70_37 ?_
    refine G18 X2 K d70_39 (by decide) (by decide) ?_
    exact Or.inr (⟨hc1, rfl, N1, e2⟩)
theorem rm40_156 (H : Hyp Z a0) (a1 : Addr) (Ol0 : Old Z (ζ Z) h0) (B_1 : Ω0 Z h0 a1 (.int 0) (.ref (ad1 Z a0)) (.int 0)) :
    Mt l Z M46 C70 1 (some .int) [] ⟨0, 0, 0, 0⟩ #[.ref a1] h0 (fun v h L => (v = some (.int 0) ∧ Fr (ζ Z) L ∧ h = h0)) := by
  refine g_be (pf pn12) (ef_0 a1) fun T0 K X0 e0 => ?_
  refine G0 X0 K d40_0 rfl rfl ?_
  refine G2 X0 K (w65 H) Via.refl e0 B_1.2.2.2 d40_1 ?_
  intro T1 X1 e1
  refine G18 X1 K d40_4 (by decide) (by decide) ?_
  exact ⟨rfl, (Fr.nil _), e1⟩
theorem rm23_157 (H : Hyp Z a0) (p1 p2 : Int32) (Ol0 : Old Z (ζ Z) h0) (hc_1 : ¬ (p2 < p1)) :
    Mt l Z M25 C45 2 (some .int) [] ⟨0, 0, 0, 0⟩ #[.int p1, .int p2] h0 (fun v h L => (v = some (.int p1) ∧ Fr (ζ Z) L ∧ h = h0)) := by
  refine g_be (Jvm.Free.JP.mathPlain rfl (by decide +kernel)) (ef_54 p1 p2) fun T0 K X0 e0 => ?_
  refine G1 X0 K d23_0 rfl ?_
  refine G1 X0 K d23_1 rfl ?_
  refine G10 X0 K d23_2 (flt hc_1).2.2.1 ?_
  refine G1 X0 K d23_5 rfl ?_
  refine G6 10 X0 K d23_6 (by decide) (by decide) ?_
  refine G18 X0 K d23_10 (by decide) (by decide) ?_
  exact ⟨rfl, (Fr.nil _), e0⟩
theorem rm14_158 (H : Hyp Z a0) (p1 p2 : Int32) (Ol0 : Old Z (ζ Z) h0) (hc_1 : p1 < p2) :
    Mt l Z M13 C50 2 (some .int) [] ⟨0, 0, 0, 0⟩ #[.int p1, .int p2] h0 (fun v h L => (v = some (.int p2) ∧ Fr (ζ Z) L ∧ h = h0)) := by
  refine g_be (Jvm.Free.JP.mathPlain rfl (by decide +kernel)) (ef_54 p1 p2) fun T0 K X0 e0 => ?_
  refine G1 X0 K d14_0 rfl ?_
  refine G1 X0 K d14_1 rfl ?_
  refine G19 9 X0 K d14_2 (tlt hc_1).1 (by decide) (by decide) ?_
  refine G1 X0 K d14_9 rfl ?_
  refine G18 X0 K d14_10 (by decide) (by decide) ?_
  exact ⟨rfl, (Fr.nil _), e0⟩
theorem rm78_159 (H : Hyp Z a0) (a1 : Addr) (Ol0 : Old Z (ζ Z) h0) :
    Mt l Z M91 C53 6 none [] ⟨0, 0, 0, 0⟩ #[.ref a1, .int 0, .int 0] h0 (fun v h L => (v = none ∧ Fr (ζ Z) L ∧ h = h0)) := by
  refine g_be (pf pn15) (ef_55 a1) fun T0 K X0 e0 => ?_
  refine G1 X0 K d78_0 rfl ?_
  refine G12 X0 K (L' := #[vr a1, vi 0, vi 0, un, vi 0, un]) d78_1 rfl ?_
  refine G22 X0 K (z := 1) (L' := #[vr a1, vi 0, vi 0, un, vi 1, un]) d78_3 rfl (by decide) rfl ?_
  refine G4 X0 K d78_6 rfl ?_
  refine G1 X0 K d78_8 rfl ?_
  refine G19 67 X0 K d78_9 (by decide) (by decide) (by decide) ?_
  refine G17 X0 K d78_67 (by decide) (by decide) ?_
  exact ⟨rfl, (Fr.nil _), e0⟩
theorem rm77_160 (H : Hyp Z a0) (a1 : Addr) (Ol0 : Old Z (ζ Z) h0) :
    Mt l Z M90 C10 21 none [] ⟨1, 0, 0, 17⟩ #[.null, .ref a1, .int 0, .int 0, .int 0] h0 (fun v h L => (v = none ∧ Fr (ζ Z) L ∧ h = h0)) := by
  refine g_be (pf pn15) (ef_56 a1) fun T0 K X0 e0 => ?_
  refine G4 X0 K d77_0 rfl ?_
  refine G3 X0 K (v := 1) d77_2 (by decide) ?_
  refine G45 X0 K d77_3 (z := (-1)) (by decide) ?_
  refine G12 X0 K (L' := #[vn, vr a1, vi 0, vi 0, vi 0, vi (-1), un, un, un, un, un, un, un, un, un, un, un, un, un, un, un]) d77_4 rfl ?_
  refine G4 X0 K d77_6 rfl ?_
  refine G1 X0 K d77_8 rfl ?_
  refine G45 X0 K d77_9 (z := 0) (by decide) ?_
  refine G12 X0 K (L' := #[vn, vr a1, vi 0, vi 0, vi 0, vi (-1), vi 0, un, un, un, un, un, un, un, un, un, un, un, un, un, un]) d77_10 rfl ?_
  refine G4 X0 K d77_12 rfl ?_
  refine G29 X0 K (v := 65) d77_14 (by decide) ?_
  refine G1 X0 K d77_16 rfl ?_
  refine G16 X0 K d77_17 (z := 65) (by decide) ?_
  refine G10 X0 K d77_18 (by decide) ?_
  refine G1 X0 K d77_21 rfl ?_
  refine G3 X0 K (v := 1) d77_22 (by decide) ?_
  refine G30 X0 K d77_23 (z := 0) (by decide) ?_
  refine G15 46 X0 K d77_24 (by decide) (by decide) (by decide) ?_
  refine G4 X0 K d77_46 rfl ?_
  refine G29 X0 K (v := 44) d77_48 (by decide) ?_
  refine G10 X0 K d77_50 (by decide) ?_
  refine G0 X0 K d77_53 rfl rfl ?_
  refine G1 X0 K d77_54 rfl ?_
  refine G4 X0 K d77_55 rfl ?_
  refine G14 X0 K (W := 0) (tw H 581 rfl) (tw H 582 rfl) (tw H 576 rfl) (tw H 583 rfl) (by decide) (rm78_159 H a1 Ol0) e0 rfl rfl rfl (lenOf pd_41 rfl) rfl d77_57 (by decide) ?_
  rintro T1 v1 L1 X1 ⟨rfl, N1q, e1⟩
  have N1 := Fr.app (Fr.nil _) N1q
  show Go _ _ _ _ _ (mkF _ _ _ [])
  refine G17 X1 K d77_60 (by decide) (by decide) ?_
  exact ⟨rfl, N1, e1⟩
theorem rm76_161 (H : Hyp Z a0) (a1 : Addr) (Ol0 : Old Z (ζ Z) h0) :
    Mt l Z M89 C30 7 none [] ⟨2, 0, 0, 49⟩ #[.ref a1, .int 0, .int 0, .int 0] h0 (fun v h L => (v = none ∧ Fr (ζ Z) L ∧ h = h0)) := by
  refine g_be (pf pn15) (ef_57 a1) fun T0 K X0 e0 => ?_
  refine G1 X0 K d76_0 rfl ?_
  refine G1 X0 K d76_1 rfl ?_
  refine G45 X0 K d76_2 (z := 0) (by decide) ?_
  refine G12 X0 K (L' := #[vr a1, vi 0, vi 0, vi 0, vi 0, un, un]) d76_3 rfl ?_
  refine G1 X0 K d76_5 rfl ?_
  refine G3 X0 K (v := 1) d76_6 (by decide) ?_
  refine G19 68 X0 K d76_7 (by decide) (by decide) (by decide) ?_
  refine G28 X0 K d76_68 ?_
  refine G0 X0 K d76_69 rfl rfl ?_
  refine G3 X0 K (v := 0) d76_70 (by decide) ?_
  refine G1 X0 K d76_71 rfl ?_
  refine G1 X0 K d76_72 rfl ?_
  refine G14 X0 K (W := 0) (tw H 578 rfl) (tw H 579 rfl) (tw H 576 rfl) (tw H 580 rfl) (by decide) (rm77_160 H a1 Ol0) e0 rfl rfl rfl (lenOf pd_42 rfl) rfl d76_73 (by decide) ?_
  rintro T1 v1 L1 X1 ⟨rfl, N1q, e1⟩
  have N1 := Fr.app (Fr.nil _) N1q
  show Go _ _ _ _ _ (mkF _ _ _ [])
  refine G17 X1 K d76_76 (by decide) (by decide) ?_
  exact ⟨rfl, N1, e1⟩
theorem rm75_162 (H : Hyp Z a0) (a1 : Addr) (k1 : ClassId) (Ol0 : Old Z (ζ Z) h0) (A_1 : Arv Z h0 a1 k1 .int 0 [] (.int 0)) :
    Mt l Z M88 C60 1 none [] ⟨3, 0, 0, 67⟩ #[.ref a1] h0 (fun v h L => (v = none ∧ Fr (ζ Z) L ∧ h = h0)) := by
  refine g_be (pf pn14) (ef_0 a1) fun T0 K X0 e0 => ?_
  refine G0 X0 K d75_0 rfl rfl ?_
  refine G3 X0 K (v := 0) d75_1 (by decide) ?_
  refine G3 X0 K (v := 0) d75_2 (by decide) ?_
  refine G0 X0 K d75_3 rfl rfl ?_
  refine G21 X0 K e0 A_1 d75_4 ?_
  refine G14 X0 K (W := 0) (tw H 574 rfl) (tw H 575 rfl) (tw H 576 rfl) (tw H 577 rfl) (by decide) (rm76_161 H a1 Ol0) e0 rfl rfl rfl (lenOf pd_43 rfl) rfl d75_5 (by decide) ?_
  rintro T1 v1 L1 X1 ⟨rfl, N1q, e1⟩
  have N1 := Fr.app (Fr.nil _) N1q
  show Go _ _ _ _ _ (mkF _ _ _ [])
  refine G17 X1 K d75_8 (by decide) (by decide) ?_
  exact ⟨rfl, N1, e1⟩
theorem rm74_163 (H : Hyp Z a0) (a1 a2 : Addr) (k1 : ClassId) (Ol0 : Old Z (ζ Z) h0) (A_1 : Arv Z h0 a2 k1 .int 0 [] (.int 0)) :
    Mt l Z M87 C29 4 (some (.array .int)) [] ⟨4, 1, 0, 79⟩ #[.ref a1, .ref a2] h0 (fun v h L => (∃ (b1 : Addr) (kA1 : ClassId), v = some (.ref b1) ∧ Fr (ζ Z) L ∧ Keep h0 h [] ∧ h0.size ≤ b1 ∧ Arv Z h b1 kA1 .int 0 [] (.int 0))) := by
  refine g_be (pf pn1) (ef_58 a1 a2) fun T0 K X0 e0 => ?_
  have nw_a2 : a2 ∉ [] := nin0
  refine G0 X0 K d74_0 rfl rfl ?_
  refine G21 X0 K e0 A_1 d74_1 ?_
  refine G35 X0 K (cap := 0) (ty := .int) (vs := []) (w516 H) rfl e0 d74_2 (by decide) (by decide) rfl (by decide) (by decide) (by decide) ?_
  intro T1 h1 b1 kA1 X1 e1 E1 z1 A1
  obtain ⟨sz1, ge1, Ol1, Kp1⟩ := ivE Ol0 (Keep.refl h0 []) E1 z1
  have so1 := Sd.one b1
  refine G38 X1 K (L' := #[vr a1, vr a2, vr b1, un]) d74_4 rfl rfl ?_
  refine G3 X1 K (v := 0) d74_5 (by decide) ?_
  refine G24 X1 K (L' := #[vr a1, vr a2, vr b1, vi 0]) d74_6 rfl ?_
  refine G1 X1 K d74_7 rfl ?_
  refine G0 X1 K d74_8 rfl rfl ?_
  have f1 := A_1.keep Kp1 nw_a2
  refine G21 X1 K e1 f1 d74_9 ?_
  refine G19 46 X1 K d74_10 (by decide) (by decide) (by decide) ?_
  refine G0 X1 K d74_46 rfl rfl ?_
  refine G14 X1 K (W := 0) (tw H 571 rfl) (tw H 572 rfl) (w134 H) (tw H 573 rfl) (by decide) (rm75_162 H b1 kA1 Ol1 A1) e1 rfl rfl rfl (lenOf pd_44 rfl) rfl d74_47 (by decide) ?_
  rintro T2 v2 L2 X2 ⟨rfl, N2q, e2⟩
  have N2 := Fr.app (Fr.nil _) N2q
  show Go _ _ _ _ _ (mkF _ _ _ [])
  refine G0 X2 K d74_50 rfl rfl ?_
  refine G13 X2 K rfl rfl rfl d74_51 (by decide) (by decide) ?_
  have Kp : Keep h0 T2.heap [] := by rw [e2]; exact Kp1
  exact ⟨b1, kA1, rfl, N2, Kp, sz1, (by rw [e2]; exact A1)⟩
theorem rm79_164 (H : Hyp Z a0) (a1 : Addr) (p1 p2 p3 : Int32) (a2 : Addr) (Ol0 : Old Z (ζ Z) h0) (B_1 : Ω11 Z h0 a1 (.int 0) (.int 0) (.int 0) (.int 0) .null .null .null .null) (ge_1 : (ζ Z) ≤ a1) (Y_1 : p3 = 0 ∨ p3 = 1) :
    Mt l Z M92 C9 9 none [] ⟨2, 0, 0, 24⟩ #[.ref a1, .int 1, .int p1, .int p2, .int p3, .null, .null, .ref a2, .null] h0 (fun v h L => (v = none ∧ Fr (ζ Z) L ∧ Keep h0 h [a1] ∧ Ω11 Z h a1 (.int 1) (.int p1) (.int p2) (.int p3) .null .null (.ref a2) .null)) := by
  refine g_be (pf pn4) (ef_59 a1 p1 p2 p3 a2) fun T0 K X0 e0 => ?_
  refine G0 X0 K d79_0 rfl rfl ?_
  refine G23 X0 K (W := 0) rfl (tw H 587 rfl) (tw H 96 rfl) (tw H 98 rfl) (tw H 99 rfl) (by decide) (rm16_23 H a1 Ol0) e0 rfl rfl rfl (lenOf pd_0 rfl) rfl d79_1 (by decide) ?_
  rintro T1 v1 L1 X1 ⟨rfl, N1q, e1⟩
  have N1 := Fr.app (Fr.nil _) N1q
  show Go _ _ _ _ _ (mkF _ _ _ [])
  refine G0 X1 K d79_4 rfl rfl ?_
  refine G1 X1 K d79_5 rfl ?_
  refine G5 X1 K (tw H 588 rfl) Via.refl e1 B_1.2.1 B_1.1 (Or.inr ⟨(tw H 589 rfl), rfl, rfl⟩) (w563 H) (ty := .int) (by decide) rfl rfl d79_6 ?_
  intro T2 h2 X2 e2 W2 F2
  obtain ⟨N2, Ol2, Kp2⟩ := ivW N1 Ol0 (Keep.refl h0 [a1]) X2 W2 ge_1 (ow 0 rfl)
  have O2 := Ω11.s0 H B_1 W2
  refine G0 X2 K d79_9 rfl rfl ?_
  refine G1 X2 K d79_10 rfl ?_
  refine G5 X2 K (tw H 590 rfl) Via.refl e2 O2.2.2.1 O2.1 (Or.inr ⟨(tw H 591 rfl), rfl, rfl⟩) (w563 H) (ty := .int) (by decide) rfl rfl d79_11 ?_
  intro T3 h3 X3 e3 W3 F3
  obtain ⟨N3, Ol3, Kp3⟩ := ivW N2 Ol2 Kp2 X3 W3 ge_1 (ow 0 rfl)
  have O3 := Ω11.s1 H O2 W3
  refine G0 X3 K d79_14 rfl rfl ?_
  refine G1 X3 K d79_15 rfl ?_
  refine G5 X3 K (tw H 592 rfl) Via.refl e3 O3.2.2.2.1 O3.1 (Or.inr ⟨(tw H 593 rfl), rfl, rfl⟩) (w563 H) (ty := .int) (by decide) rfl rfl d79_16 ?_
  intro T4 h4 X4 e4 W4 F4
  obtain ⟨N4, Ol4, Kp4⟩ := ivW N3 Ol3 Kp3 X4 W4 ge_1 (ow 0 rfl)
  have O4 := Ω11.s2 H O3 W4
  refine G0 X4 K d79_19 rfl rfl ?_
  refine G4 X4 K d79_20 rfl ?_
  refine G76 X4 K (tw H 594 rfl) Via.refl e4 O4.2.2.2.2.1 O4.1 (Or.inr ⟨(tw H 595 rfl), rfl, rfl⟩) (w563 H) (ty := .boolean) (by decide) (fl_narrow Y_1) (fl_fits Y_1) d79_22 ?_
  intro T5 h5 X5 e5 W5 F5
  obtain ⟨N5, Ol5, Kp5⟩ := ivW N4 Ol4 Kp4 X5 W5 ge_1 (ow 0 rfl)
  have O5 := Ω11.s3 H O4 W5
  refine G0 X5 K d79_25 rfl rfl ?_
  refine G7 X5 K d79_26 rfl rfl ?_
  refine G5 X5 K (tw H 596 rfl) Via.refl e5 O5.2.2.2.2.2.1 O5.1 (Or.inr ⟨(tw H 597 rfl), rfl, rfl⟩) (w563 H) (ty := (.object Q36)) (by decide) rfl rfl d79_28 ?_
  intro T6 h6 X6 e6 W6 F6
  obtain ⟨N6, Ol6, Kp6⟩ := ivW N5 Ol5 Kp5 X6 W6 ge_1 (ow 0 rfl)
  have O6 := Ω11.s4 H O5 W6
  refine G0 X6 K d79_31 rfl rfl ?_
  refine G7 X6 K d79_32 rfl rfl ?_
  refine G5 X6 K (tw H 598 rfl) Via.refl e6 O6.2.2.2.2.2.2.1 O6.1 (Or.inr ⟨(tw H 599 rfl), rfl, rfl⟩) (w563 H) (ty := (.object Q38)) (by decide) rfl rfl d79_34 ?_
  intro T7 h7 X7 e7 W7 F7
  obtain ⟨N7, Ol7, Kp7⟩ := ivW N6 Ol6 Kp6 X7 W7 ge_1 (ow 0 rfl)
  have O7 := Ω11.s5 H O6 W7
  refine G0 X7 K d79_37 rfl rfl ?_
  refine G7 X7 K d79_38 rfl rfl ?_
  refine G5 X7 K (tw H 600 rfl) Via.refl e7 O7.2.2.2.2.2.2.2.1 O7.1 (Or.inr ⟨(tw H 601 rfl), rfl, rfl⟩) (w563 H) (ty := (.array .int)) (by decide) rfl rfl d79_40 ?_
  intro T8 h8 X8 e8 W8 F8
  obtain ⟨N8, Ol8, Kp8⟩ := ivW N7 Ol7 Kp7 X8 W8 ge_1 (ow 0 rfl)
  have O8 := Ω11.s6 H O7 W8
  refine G0 X8 K d79_43 rfl rfl ?_
  refine G7 X8 K d79_44 rfl rfl ?_
  refine G5 X8 K (tw H 602 rfl) Via.refl e8 O8.2.2.2.2.2.2.2.2 O8.1 (Or.inr ⟨(tw H 603 rfl), rfl, rfl⟩) (w563 H) (ty := (.object Q37)) (by decide) rfl rfl d79_46 ?_
  intro T9 h9 X9 e9 W9 F9
  obtain ⟨N9, Ol9, Kp9⟩ := ivW N8 Ol8 Kp8 X9 W9 ge_1 (ow 0 rfl)
  have O9 := Ω11.s7 H O8 W9
  refine G17 X9 K d79_49 (by decide) (by decide) ?_
  have Kp : Keep h0 T9.heap [a1] := by rw [e9]; exact Kp9
  exact ⟨rfl, N9, Kp, (by rw [e9]; exact O9)⟩
theorem rm11_165 (H : Hyp Z a0) (a1 a2 : Addr) (p1 p2 p3 : Int32) (a3 : Addr) (Ol0 : Old Z (ζ Z) h0) (B_1 : Ω0 Z h0 a1 (.int 1) (.ref (ad1 Z a0)) (.int 0)) (ge_1 : (ζ Z) ≤ a1) (B_2 : Ω11 Z h0 a2 (.int 1) (.int p1) (.int p2) (.int p3) .null .null (.ref a3) .null) (ne_1 : a2 ≠ a1) :
    Mt l Z M10 C15 4 none [] ⟨3, 1, 10, 41⟩ #[.ref a1, .ref a2, (.ref (ad1 Z a0)), .int 0] h0 (fun v h L => (∃ (bx1 : Addr) (kB1 : ClassId), v = none ∧ Fr (ζ Z) L ∧ Keep h0 h [a1] ∧ h0.size ≤ bx1 ∧ Ω0 Z h a1 (.int 1) (.ref bx1) (.int 1) ∧ Arv Z h bx1 kB1 (.object Q3) 10 [.ref a2, .null, .null, .null, .null, .null, .null, .null, .null, .null] .null ∧ Exa Z h bx1 Q7 ∧ Ovr Z kB1 Q3)) := by
  refine g_be (pf pn12) (ef_5 a1 a2 (ad1 Z a0)) fun T0 K X0 e0 => ?_
  have nw_a2 : a2 ∉ [a1] := (ninS ne_1 nin0)
  refine G1 X0 K d11_0 rfl ?_
  refine G0 X0 K d11_1 rfl rfl ?_
  refine G21 X0 K e0 ((v1 H).ext Ol0.2) d11_2 ?_
  refine G10 X0 K d11_3 (by decide) ?_
  refine G0 X0 K d11_6 rfl rfl ?_
  refine G25 X0 K (W := 0) (tw H 72 rfl) (tw H 74 rfl) (tw H 75 rfl) (tw H 73 rfl) (w3 H) (tw H 76 rfl) (by decide) (rm12_10 H a1 Ol0 B_1 ge_1) e0 B_1.1 rfl rfl rfl (lenOf pd_7 rfl) rfl d11_7 (by decide) ?_
  rintro T1 v1 L1 X1 ⟨bx1, kB1, rfl, N1q, Kc1, lz1_0, g1, g2, g3, g4⟩
  have szbx1 := Nat.le_trans (Keep.refl h0 [a1]).1 lz1_0
  have gebx1 := Nat.le_trans Ol0.2.1 lz1_0
  have so1 := Sd.one bx1
  obtain ⟨N1, Ol1, Kp1⟩ := ivK (Fr.nil _) Ol0 (Keep.refl h0 [a1]) N1q Kc1 (allS ge_1 all0) (kaS (ow 0 rfl) all0)
  show Go _ _ _ _ _ (mkF _ _ _ [.ref bx1])
  refine G38 X1 K (L' := #[vr a1, vr a2, vr bx1, vi 0]) d11_10 rfl rfl ?_
  refine G0 X1 K d11_11 rfl rfl ?_
  refine G1 X1 K d11_12 rfl ?_
  refine G0 X1 K d11_13 rfl rfl ?_
  have f1 := B_2.keep Kp1 nw_a2
  refine G32 X1 K (vs' := [.ref a2, .null, .null, .null, .null, .null, .null, .null, .null, .null]) rfl g2 (Or.inr ⟨_, rfl, g4, (Ins.of_exa f1.1 (tw H 605 rfl))⟩) (by decide) (Nat.le_of_ble_eq_true rfl) rfl d11_14 ?_
  intro T2 h2 X2 e2 W2 F2
  obtain ⟨N2, Ol2, Kp2⟩ := ivW N1 Ol1 Kp1 X2 W2 gebx1 (Or.inr szbx1)
  refine G0 X2 K d11_15 rfl rfl ?_
  refine G1 X2 K d11_16 rfl ?_
  refine G3 X2 K (v := 1) d11_17 (by decide) ?_
  refine G16 X2 K d11_18 (z := 1) (by decide) ?_
  have ne1 : a1 ≠ bx1 := (Nat.ne_of_lt (Nat.lt_of_lt_of_le B_1.lt szbx1))
  have f2 := (g1.other W2 ne1)
  refine G5 X2 K (w65 H) Via.refl e2 f2.2.2.2 f2.1 (Or.inl (w66 H)) (w2 H) (ty := .int) (by decide) rfl rfl d11_19 ?_
  intro T3 h3 X3 e3 W3 F3
  obtain ⟨N3, Ol3, Kp3⟩ := ivW N2 Ol2 Kp2 X3 W3 ge_1 (ow 0 rfl)
  have O3 := Ω0.s2 H f2 W3
  refine G17 X3 K d11_22 (by decide) (by decide) ?_
  have Kp : Keep h0 T3.heap [a1] := by rw [e3]; exact Kp3
  have f3 := (F2.other W3 (Ne.symm ne1))
  have f4 := ((g3.wr W2).wr W3)
  exact ⟨bx1, kB1, rfl, N3, Kp, szbx1, (by rw [e3]; exact O3), (by rw [e3]; exact f3), (by rw [e3]; exact f4), g4⟩
theorem rm10_166 (H : Hyp Z a0) (a1 a2 : Addr) (p1 p2 p3 : Int32) (a3 : Addr) (Ol0 : Old Z (ζ Z) h0) (B_1 : Ω0 Z h0 a1 (.int 0) (.ref (ad1 Z a0)) (.int 0)) (ge_1 : (ζ Z) ≤ a1) (B_2 : Ω11 Z h0 a2 (.int 1) (.int p1) (.int p2) (.int p3) .null .null (.ref a3) .null) (ne_1 : a2 ≠ a1) :
    Mt l Z M9 C16 2 (some .boolean) [] ⟨4, 1, 10, 56⟩ #[.ref a1, .ref a2] h0 (fun v h L => (∃ (bx1 : Addr) (kB1 : ClassId), v = some (.int 1) ∧ Fr (ζ Z) L ∧ Keep h0 h [a1] ∧ h0.size ≤ bx1 ∧ Ω0 Z h a1 (.int 1) (.ref bx1) (.int 1) ∧ Arv Z h bx1 kB1 (.object Q3) 10 [.ref a2, .null, .null, .null, .null, .null, .null, .null, .null, .null] .null ∧ Exa Z h bx1 Q7 ∧ Ovr Z kB1 Q3)) := by
  refine g_be (pf pn12) (ef_6 a1 a2) fun T0 K X0 e0 => ?_
  have nw_a2 : a2 ∉ [a1] := (ninS ne_1 nin0)
  refine G0 X0 K d10_0 rfl rfl ?_
  refine G9 X0 K d10_1 rfl ?_
  refine G2 X0 K (w63 H) (Via.of (w64 H)) e0 B_1.2.1 d10_2 ?_
  intro T1 X1 e1
  refine G3 X1 K (v := 1) d10_5 (by decide) ?_
  refine G16 X1 K d10_6 (z := 1) (by decide) ?_
  refine G5 X1 K (w63 H) (Via.of (w64 H)) e1 B_1.2.1 B_1.1 (Or.inl (w23 H)) (w2 H) (ty := .int) (by decide) rfl rfl d10_7 ?_
  intro T2 h2 X2 e2 W2 F2
  obtain ⟨N2, Ol2, Kp2⟩ := ivW (Fr.nil _) Ol0 (Keep.refl h0 [a1]) X2 W2 ge_1 (ow 0 rfl)
  have O2 := Ω0.s0 H B_1 W2
  refine G0 X2 K d10_10 rfl rfl ?_
  refine G0 X2 K d10_11 rfl rfl ?_
  refine G0 X2 K d10_12 rfl rfl ?_
  refine G2 X2 K (w25 H) Via.refl e2 O2.2.2.1 d10_13 ?_
  intro T3 X3 e3
  refine G0 X3 K d10_16 rfl rfl ?_
  refine G2 X3 K (w65 H) Via.refl e3 O2.2.2.2 d10_17 ?_
  intro T4 X4 e4
  have f1 := B_2.keep Kp2 nw_a2
  refine G25 X4 K (W := 0) (w67 H) (w69 H) (w70 H) (w68 H) (w3 H) (w71 H) (by decide) (rm11_165 H a1 a2 p1 p2 p3 a3 Ol2 O2 ge_1 f1 ne_1) e4 O2.1 rfl rfl rfl (lenOf pd_8 rfl) rfl d10_20 (by decide) ?_
  rintro T5 v5 L5 X5 ⟨bx1, kB1, rfl, N5q, Kc5, lz5_0, g1, g2, g3, g4⟩
  have szbx1 := Nat.le_trans Kp2.1 lz5_0
  have gebx1 := Nat.le_trans Ol2.2.1 lz5_0
  have so1 := Sd.one bx1
  obtain ⟨N5, Ol5, Kp5⟩ := ivK N2 Ol2 Kp2 N5q Kc5 (allS ge_1 all0) (kaS (ow 0 rfl) all0)
  show Go _ _ _ _ _ (mkF _ _ _ [])
  refine G3 X5 K (v := 1) d10_23 (by decide) ?_
  refine G31 X5 K (by simp) (z' := 1) (by decide) d10_24 (by decide) (by decide) ?_
  exact ⟨bx1, kB1, rfl, N5, Kp5, szbx1, g1, g2, g3, g4⟩
theorem rm80_167 (H : Hyp Z a0) (a1 : Addr) (p1 p2 p3 : Int32) (a2 : Addr) (Ol0 : Old Z (ζ Z) h0) (B_1 : Ω11 Z h0 a1 (.int 1) (.int p1) (.int p2) (.int p3) .null .null (.ref a2) .null) :
    Mt l Z M93 C75 1 (some .int) [] ⟨0, 0, 0, 0⟩ #[.ref a1] h0 (fun v h L => (v = some (.int 1) ∧ Fr (ζ Z) L ∧ h = h0)) := by
  refine g_be (pf pn4) (ef_0 a1) fun T0 K X0 e0 => ?_
  refine G0 X0 K d80_0 rfl rfl ?_
  refine G2 X0 K (tw H 588 rfl) Via.refl e0 B_1.2.1 d80_1 ?_
  intro T1 X1 e1
  refine G18 X1 K d80_4 (by decide) (by decide) ?_
  exact ⟨rfl, (Fr.nil _), e1⟩
theorem rm82_168 (H : Hyp Z a0) (a1 : Addr) (p1 : Int32) (a2 a3 a4 a5 a6 : Addr) (Ol0 : Old Z (ζ Z) h0) (B_1 : Ω4 Z h0 a1 (.ref a2) (.ref a3) (.ref a4) (.ref a5) (.int 3) (.ref a6)) :
    Mt l Z M95 C65 2 (some .int) [] ⟨0, 0, 0, 0⟩ #[.ref a1, .int p1] h0 (fun v h L => (v = some (.int (p1 / 3)) ∧ Fr (ζ Z) L ∧ h = h0)) := by
  refine g_be (pf pn3) (ef_60 a1 p1) fun T0 K X0 e0 => ?_
  refine G1 X0 K d82_0 rfl ?_
  refine G0 X0 K d82_1 rfl rfl ?_
  refine G2 X0 K (tw H 289 rfl) Via.refl e0 B_1.2.2.2.2.2.1 d82_2 ?_
  intro T1 X1 e1
  refine G75 X1 K d82_5 (by decide) rfl ?_
  refine G18 X1 K d82_6 (by decide) (by decide) ?_
  exact ⟨rfl, (Fr.nil _), e1⟩
theorem rm83_169 (H : Hyp Z a0) (a1 : Addr) (p1 : Int32) (a2 a3 a4 a5 a6 a7 a8 : Addr) (Ol0 : Old Z (ζ Z) h0) (B_1 : Ω4 Z h0 a1 (.ref a2) (.ref a3) (.ref a4) (.ref a5) (.int 3) (.ref a6)) (B_2 : Ω6 Z h0 a5 (.ref a7) (.ref a8)) (ge_1 : (ζ Z) ≤ a8) :
    Mt l Z M96 C44 3 (some .int) [] ⟨1, 0, 0, 13⟩ #[.ref a1, .int p1, .int 1] h0 (fun v h L => (v = some (.int ((p1 * 2) + 1)) ∧ Fr (ζ Z) L ∧ h = h0)) := by
  refine g_be (pf pn3) (ef_61 a1 p1) fun T0 K X0 e0 => ?_
  refine G1 X0 K d83_0 rfl ?_
  refine G0 X0 K d83_1 rfl rfl ?_
  refine G2 X0 K (tw H 251 rfl) Via.refl e0 B_1.2.2.2.2.1 d83_2 ?_
  intro T1 X1 e1
  refine G20 X1 K (W := 1) (w280 H) (w281 H) (mvT K.z (w282 H)) (tw H 498 rfl) (tw H 499 rfl) (tw H 500 rfl) (tw H 501 rfl) (tw H 502 rfl) (w237 H) (tw H 503 rfl) (by decide) (rm65_145 H a5 a7 a8 Ol0 B_2 ge_1) e1 B_2.1 rfl rfl rfl (lenOf pd_23 rfl) rfl d83_5 (by decide) ?_
  rintro T2 v2 L2 X2 ⟨rfl, N2q, e2⟩
  have N2 := Fr.app (Fr.nil _) N2q
  show Go _ _ _ _ _ (mkF _ _ _ [.int 2, .int p1])
  refine G48 X2 K d83_10 rfl ?_
  refine G1 X2 K d83_11 rfl ?_
  refine G16 X2 K d83_12 rfl ?_
  refine G18 X2 K d83_13 (by decide) (by decide) ?_
  exact ⟨rfl, N2, e2⟩
theorem rm85_170 (H : Hyp Z a0) (a1 : Addr) (p1 : Int32) (a2 a3 a4 a5 a6 : Addr) (Ol0 : Old Z (ζ Z) h0) (B_1 : Ω4 Z h0 a1 (.ref a2) (.ref a3) (.ref a4) (.ref a5) (.int 3) (.ref a6)) :
    Mt l Z M98 C66 2 (some .int) [] ⟨0, 0, 0, 0⟩ #[.ref a1, .int p1] h0 (fun v h L => (v = some (.int (p1 % 3)) ∧ Fr (ζ Z) L ∧ h = h0)) := by
  refine g_be (pf pn3) (ef_60 a1 p1) fun T0 K X0 e0 => ?_
  refine G1 X0 K d85_0 rfl ?_
  refine G0 X0 K d85_1 rfl rfl ?_
  refine G2 X0 K (tw H 289 rfl) Via.refl e0 B_1.2.2.2.2.2.1 d85_2 ?_
  intro T1 X1 e1
  refine G63 X1 K d85_5 (by decide) rfl ?_
  refine G18 X1 K d85_6 (by decide) (by decide) ?_
  exact ⟨rfl, (Fr.nil _), e1⟩
theorem rm84_171 (H : Hyp Z a0) (a1 : Addr) (p1 p2 : Int32) (a2 a3 a4 a5 a6 a7 a8 a9 a10 a11 a12 a13 a14 : Addr) (u1 : List Value) (k1 : ClassId) (Ol0 : Old Z (ζ Z) h0) (B_1 : Ω10 Z h0 a1 (.ref a2) (.ref a3) (.int 3) (.int 2) (.int 6) (.ref a4) (.ref a5) (.ref a6) (.ref a7) (.int 9) (.int 2147483647) (.int 2147483647)) (B_2 : Ω4 Z h0 a3 (.ref a8) (.ref a9) (.ref a10) (.ref a11) (.int 3) (.ref a12)) (cn_1 : Cn p1 p2 1) (B_3 : Ω6 Z h0 a11 (.ref a13) (.ref a14)) (ge_1 : (ζ Z) ≤ a14) (A_1 : Arv Z h0 a7 k1 .long 12 u1 (.long 0)) (li_1 : Li u1 p1 1 (.long 7) (.long 0)) (ge_2 : (ζ Z) ≤ a7) :
    Mt l Z M97 C5 5 none [] ⟨2, 0, 0, 27⟩ #[.ref a1, .int p1, .int p2, .int 0] h0 (fun v h L => (v = none ∧ Fr (ζ Z) L ∧ Keep h0 h [a7] ∧ Arv Z h a7 k1 .long 12 (u1.set ((p1 * 2) + 1).toNatClampNeg (.long (msk p2))) (.long 0))) := by
  refine g_be (pf pn1) (ef_62 a1 p1 p2) fun T0 K X0 e0 => ?_
  refine G0 X0 K d84_0 rfl rfl ?_
  refine G2 X0 K (w484 H) Via.refl e0 B_1.2.2.1 d84_1 ?_
  intro T1 X1 e1
  refine G1 X1 K d84_4 rfl ?_
  refine G0 X1 K d84_5 rfl rfl ?_
  refine G2 X1 K (w484 H) Via.refl e1 B_1.2.2.1 d84_6 ?_
  intro T2 X2 e2
  refine G1 X2 K d84_9 rfl ?_
  refine G8 X2 K (W := 2) (w615 H) (w616 H) (nf_self K (w618 H)) (w618 H) (w617 H) (w204 H) (w619 H) (by decide) (rm82_168 H a3 p2 a8 a9 a10 a11 a12 Ol0 B_2) e2 B_2.1 rfl rfl rfl (lenOf pd_47 rfl) rfl d84_10 (by decide) ?_
  rintro T3 v3 L3 X3 ⟨rfl, N3q, e3⟩
  have N3 := Fr.app (Fr.nil _) N3q
  show Go _ _ _ _ _ (mkF _ _ _ [(.int (p2 / 3)), .int p1, .ref a3])
  rw [cn_1.1]
  refine G8 X3 K (W := 0) (w620 H) (w621 H) (nf_self K (w623 H)) (w623 H) (w622 H) (w204 H) (w624 H) (by decide) (rm83_169 H a3 p1 a8 a9 a10 a11 a12 a13 a14 Ol0 B_2 B_3 ge_1) e3 B_2.1 rfl rfl rfl (lenOf pd_5 rfl) rfl d84_13 (by decide) ?_
  rintro T4 v4 L4 X4 ⟨rfl, N4q, e4⟩
  have N4 := Fr.app N3 N4q
  show Go _ _ _ _ _ (mkF _ _ _ [(.int ((p1 * 2) + 1))])
  refine G12 X4 K (L' := #[vr a1, vi p1, vi p2, vi 0, vi ((p1 * 2) + 1)]) d84_16 rfl ?_
  refine G1 X4 K d84_18 rfl ?_
  refine G15 33 X4 K d84_19 (by decide) (by decide) (by decide) ?_
  refine G0 X4 K d84_33 rfl rfl ?_
  refine G2 X4 K (w530 H) Via.refl e4 B_1.2.2.2.2.2.2.2.2.2.1 d84_34 ?_
  intro T5 X5 e5
  refine G4 X5 K d84_37 rfl ?_
  refine G77 X5 K d84_39 rfl rfl ?_
  refine G68 X5 K (v := (.long 7)) e5 A_1 cn_1.2.1 li_1.2 d84_40 ?_
  refine G60 X5 K (v := 1) d84_41 (by decide) ?_
  refine G0 X5 K d84_42 rfl rfl ?_
  refine G2 X5 K (w484 H) Via.refl e5 B_1.2.2.1 d84_43 ?_
  intro T6 X6 e6
  refine G1 X6 K d84_46 rfl ?_
  refine G8 X6 K (W := 6) (tw H 629 rfl) (tw H 630 rfl) (nf_self K (tw H 632 rfl)) (tw H 632 rfl) (tw H 631 rfl) (w204 H) (tw H 633 rfl) (by decide) (rm85_170 H a3 p2 a8 a9 a10 a11 a12 Ol0 B_2) e6 B_2.1 rfl rfl rfl (lenOf pd_47 rfl) rfl d84_47 (by decide) ?_
  rintro T7 v7 L7 X7 ⟨rfl, N7q, e7⟩
  have N7 := Fr.app N4 N7q
  show Go _ _ _ _ _ (mkF _ _ _ [(.int (p2 % 3)), .long 1, .long 7, (.int ((p1 * 2) + 1)), .ref a7])
  refine G70 X7 K d84_50 rfl ?_
  refine G78 X7 K (tw H 634 rfl) d84_51 ?_
  refine G79 X7 K d84_54 rfl ?_
  refine G80 X7 K (z := (msk p2)) d84_55 rfl ?_
  refine G41 X7 K (vs' := (u1.set ((p1 * 2) + 1).toNatClampNeg (.long (msk p2)))) e7 A_1 cn_1.2.1 (lil li_1 cn_1.2.2.1) rfl d84_56 ?_
  intro T8 h8 X8 e8 W8 F8
  obtain ⟨N8, Ol8, Kp8⟩ := ivW N7 Ol0 (Keep.refl h0 [a7]) X8 W8 ge_2 (ow 0 rfl)
  refine G17 X8 K d84_57 (by decide) (by decide) ?_
  have Kp : Keep h0 T8.heap [a7] := by rw [e8]; exact Kp8
  exact ⟨rfl, N8, Kp, (by rw [e8]; exact F8)⟩
theorem rm81_172 (H : Hyp Z a0) (a1 : Addr) (p1 p2 : Int32) (a2 a3 a4 a5 a6 a7 a8 a9 a10 a11 a12 a13 a14 : Addr) (u1 : List Value) (k1 : ClassId) (Ol0 : Old Z (ζ Z) h0) (B_1 : Ω10 Z h0 a1 (.ref a2) (.ref a3) (.int 3) (.int 2) (.int 6) (.ref a4) (.ref a5) (.ref a6) (.ref a7) (.int 9) (.int 2147483647) (.int 2147483647)) (B_2 : Ω4 Z h0 a3 (.ref a8) (.ref a9) (.ref a10) (.ref a11) (.int 3) (.ref a12)) (cn_1 : Cn p1 p2 1) (B_3 : Ω6 Z h0 a11 (.ref a13) (.ref a14)) (ge_1 : (ζ Z) ≤ a14) (A_1 : Arv Z h0 a7 k1 .long 12 u1 (.long 0)) (li_1 : Li u1 p1 1 (.long 7) (.long 0)) (ge_2 : (ζ Z) ≤ a7) (ne_1 : a1 ≠ a7) :
    Mt l Z M94 C4 6 none [] ⟨3, 0, 0, 43⟩ #[.ref a1, .int p1, .int p2, .int 0] h0 (fun v h L => (v = none ∧ Fr (ζ Z) L ∧ Keep h0 h [a7] ∧ Arv Z h a7 k1 .long 12 (u1.set ((p1 * 2) + 1).toNatClampNeg (.long (msk p2))) (.long 0))) := by
  refine g_be (pf pn1) (ef_63 a1 p1 p2) fun T0 K X0 e0 => ?_
  have nw_a1 : a1 ∉ [a7] := (ninS ne_1 nin0)
  refine G0 X0 K d81_0 rfl rfl ?_
  refine G2 X0 K (w484 H) Via.refl e0 B_1.2.2.1 d81_1 ?_
  intro T1 X1 e1
  refine G1 X1 K d81_4 rfl ?_
  refine G8 X1 K (W := 0) (w615 H) (w616 H) (nf_self K (w618 H)) (w618 H) (w617 H) (w204 H) (w619 H) (by decide) (rm82_168 H a3 p2 a8 a9 a10 a11 a12 Ol0 B_2) e1 B_2.1 rfl rfl rfl (lenOf pd_47 rfl) rfl d81_5 (by decide) ?_
  rintro T2 v2 L2 X2 ⟨rfl, N2q, e2⟩
  have N2 := Fr.app (Fr.nil _) N2q
  show Go _ _ _ _ _ (mkF _ _ _ [(.int (p2 / 3))])
  rw [cn_1.1]
  refine G12 X2 K (L' := #[vr a1, vi p1, vi p2, vi 0, vi 1, un]) d81_8 rfl ?_
  refine G0 X2 K d81_10 rfl rfl ?_
  refine G2 X2 K (w484 H) Via.refl e2 B_1.2.2.1 d81_11 ?_
  intro T3 X3 e3
  refine G1 X3 K d81_14 rfl ?_
  refine G4 X3 K d81_15 rfl ?_
  refine G8 X3 K (W := 0) (w620 H) (w621 H) (nf_self K (w623 H)) (w623 H) (w622 H) (w204 H) (w624 H) (by decide) (rm83_169 H a3 p1 a8 a9 a10 a11 a12 a13 a14 Ol0 B_2 B_3 ge_1) e3 B_2.1 rfl rfl rfl (lenOf pd_5 rfl) rfl d81_17 (by decide) ?_
  rintro T4 v4 L4 X4 ⟨rfl, N4q, e4⟩
  have N4 := Fr.app N2 N4q
  show Go _ _ _ _ _ (mkF _ _ _ [(.int ((p1 * 2) + 1))])
  refine G12 X4 K (L' := #[vr a1, vi p1, vi p2, vi 0, vi 1, vi ((p1 * 2) + 1)]) d81_20 rfl ?_
  refine G1 X4 K d81_22 rfl ?_
  refine G15 103 X4 K d81_23 (by decide) (by decide) (by decide) ?_
  refine G0 X4 K d81_103 rfl rfl ?_
  refine G1 X4 K d81_104 rfl ?_
  refine G1 X4 K d81_105 rfl ?_
  refine G1 X4 K d81_106 rfl ?_
  refine G25 X4 K (W := 0) (tw H 625 rfl) (w627 H) (selPriv (w474 H) (w627 H) (w626 H) (by decide)) (w626 H) (w475 H) (tw H 628 rfl) (by decide) (rm84_171 H a1 p1 p2 a2 a3 a4 a5 a6 a7 a8 a9 a10 a11 a12 a13 a14 u1 k1 Ol0 B_1 B_2 cn_1 B_3 ge_1 A_1 li_1 ge_2) e4 B_1.1 rfl rfl rfl (lenOf pd_48 rfl) rfl d81_107 (by decide) ?_
  rintro T5 v5 L5 X5 ⟨rfl, N5q, Kc5, g1⟩
  obtain ⟨N5, Ol5, Kp5⟩ := ivK N4 Ol0 (Keep.refl h0 [a7]) N5q Kc5 (allS ge_2 all0) (kaS (ow 0 rfl) all0)
  show Go _ _ _ _ _ (mkF _ _ _ [])
  refine G1 X5 K d81_110 rfl ?_
  refine G11 X5 K d81_111 (by decide) ?_
  refine G0 X5 K d81_114 rfl rfl ?_
  have f1 := B_1.keep Kp5 nw_a1
  refine G2 X5 K (w530 H) Via.refl rfl f1.2.2.2.2.2.2.2.2.2.1 d81_115 ?_
  intro T6 X6 e6
  refine G4 X6 K d81_118 rfl ?_
  refine G68 X6 K (v := (.long (msk p2))) e6 g1 cn_1.2.1 (gd_self (lil li_1 cn_1.2.2.1)) d81_120 ?_
  refine G60 X6 K (v := 0) d81_121 (by decide) ?_
  refine G81 X6 K (z := 1) d81_122 cn_1.2.2.2 ?_
  refine G15 180 X6 K d81_123 (by decide) (by decide) (by decide) ?_
  refine G17 X6 K d81_180 (by decide) (by decide) ?_
  have Kp : Keep h0 T6.heap [a7] := by rw [e6]; exact Kp5
  exact ⟨rfl, N5, Kp, (by rw [e6]; exact g1)⟩
theorem rm83_173 (H : Hyp Z a0) (a1 : Addr) (p1 : Int32) (a2 a3 a4 a5 a6 a7 a8 : Addr) (Ol0 : Old Z (ζ Z) h0) (B_1 : Ω4 Z h0 a1 (.ref a2) (.ref a3) (.ref a4) (.ref a5) (.int 3) (.ref a6)) (B_2 : Ω6 Z h0 a5 (.ref a7) (.ref a8)) (ge_1 : (ζ Z) ≤ a8) :
    Mt l Z M96 C44 3 (some .int) [] ⟨1, 0, 0, 13⟩ #[.ref a1, .int p1, .int 0] h0 (fun v h L => (v = some (.int ((p1 * 2) + 0)) ∧ Fr (ζ Z) L ∧ h = h0)) := by
  refine g_be (pf pn3) (ef_64 a1 p1) fun T0 K X0 e0 => ?_
  refine G1 X0 K d83_0 rfl ?_
  refine G0 X0 K d83_1 rfl rfl ?_
  refine G2 X0 K (tw H 251 rfl) Via.refl e0 B_1.2.2.2.2.1 d83_2 ?_
  intro T1 X1 e1
  refine G20 X1 K (W := 1) (w280 H) (w281 H) (mvT K.z (w282 H)) (tw H 498 rfl) (tw H 499 rfl) (tw H 500 rfl) (tw H 501 rfl) (tw H 502 rfl) (w237 H) (tw H 503 rfl) (by decide) (rm65_145 H a5 a7 a8 Ol0 B_2 ge_1) e1 B_2.1 rfl rfl rfl (lenOf pd_23 rfl) rfl d83_5 (by decide) ?_
  rintro T2 v2 L2 X2 ⟨rfl, N2q, e2⟩
  have N2 := Fr.app (Fr.nil _) N2q
  show Go _ _ _ _ _ (mkF _ _ _ [.int 2, .int p1])
  refine G48 X2 K d83_10 rfl ?_
  refine G1 X2 K d83_11 rfl ?_
  refine G16 X2 K d83_12 rfl ?_
  refine G18 X2 K d83_13 (by decide) (by decide) ?_
  exact ⟨rfl, N2, e2⟩
theorem rm84_174 (H : Hyp Z a0) (a1 : Addr) (p1 p2 : Int32) (a2 a3 a4 a5 a6 a7 a8 a9 a10 a11 a12 a13 a14 : Addr) (u1 : List Value) (k1 : ClassId) (Ol0 : Old Z (ζ Z) h0) (B_1 : Ω10 Z h0 a1 (.ref a2) (.ref a3) (.int 3) (.int 2) (.int 6) (.ref a4) (.ref a5) (.ref a6) (.ref a7) (.int 9) (.int 2147483647) (.int 2147483647)) (B_2 : Ω4 Z h0 a3 (.ref a8) (.ref a9) (.ref a10) (.ref a11) (.int 3) (.ref a12)) (cn_1 : Cn p1 p2 0) (B_3 : Ω6 Z h0 a11 (.ref a13) (.ref a14)) (ge_1 : (ζ Z) ≤ a14) (A_1 : Arv Z h0 a7 k1 .long 12 u1 (.long 0)) (li_1 : Li u1 p1 0 (.long 7) (.long 0)) (ge_2 : (ζ Z) ≤ a7) :
    Mt l Z M97 C5 5 none [] ⟨2, 0, 0, 27⟩ #[.ref a1, .int p1, .int p2, .int 0] h0 (fun v h L => (v = none ∧ Fr (ζ Z) L ∧ Keep h0 h [a7] ∧ Arv Z h a7 k1 .long 12 (u1.set ((p1 * 2) + 0).toNatClampNeg (.long (msk p2))) (.long 0))) := by
  refine g_be (pf pn1) (ef_62 a1 p1 p2) fun T0 K X0 e0 => ?_
  refine G0 X0 K d84_0 rfl rfl ?_
  refine G2 X0 K (w484 H) Via.refl e0 B_1.2.2.1 d84_1 ?_
  intro T1 X1 e1
  refine G1 X1 K d84_4 rfl ?_
  refine G0 X1 K d84_5 rfl rfl ?_
  refine G2 X1 K (w484 H) Via.refl e1 B_1.2.2.1 d84_6 ?_
  intro T2 X2 e2
  refine G1 X2 K d84_9 rfl ?_
  refine G8 X2 K (W := 2) (w615 H) (w616 H) (nf_self K (w618 H)) (w618 H) (w617 H) (w204 H) (w619 H) (by decide) (rm82_168 H a3 p2 a8 a9 a10 a11 a12 Ol0 B_2) e2 B_2.1 rfl rfl rfl (lenOf pd_47 rfl) rfl d84_10 (by decide) ?_
  rintro T3 v3 L3 X3 ⟨rfl, N3q, e3⟩
  have N3 := Fr.app (Fr.nil _) N3q
  show Go _ _ _ _ _ (mkF _ _ _ [(.int (p2 / 3)), .int p1, .ref a3])
  rw [cn_1.1]
  refine G8 X3 K (W := 0) (w620 H) (w621 H) (nf_self K (w623 H)) (w623 H) (w622 H) (w204 H) (w624 H) (by decide) (rm83_173 H a3 p1 a8 a9 a10 a11 a12 a13 a14 Ol0 B_2 B_3 ge_1) e3 B_2.1 rfl rfl rfl (lenOf pd_5 rfl) rfl d84_13 (by decide) ?_
  rintro T4 v4 L4 X4 ⟨rfl, N4q, e4⟩
  have N4 := Fr.app N3 N4q
  show Go _ _ _ _ _ (mkF _ _ _ [(.int ((p1 * 2) + 0))])
  refine G12 X4 K (L' := #[vr a1, vi p1, vi p2, vi 0, vi ((p1 * 2) + 0)]) d84_16 rfl ?_
  refine G1 X4 K d84_18 rfl ?_
  refine G15 33 X4 K d84_19 (by decide) (by decide) (by decide) ?_
  refine G0 X4 K d84_33 rfl rfl ?_
  refine G2 X4 K (w530 H) Via.refl e4 B_1.2.2.2.2.2.2.2.2.2.1 d84_34 ?_
  intro T5 X5 e5
  refine G4 X5 K d84_37 rfl ?_
  refine G77 X5 K d84_39 rfl rfl ?_
  refine G68 X5 K (v := (.long 7)) e5 A_1 cn_1.2.1 li_1.2 d84_40 ?_
  refine G60 X5 K (v := 1) d84_41 (by decide) ?_
  refine G0 X5 K d84_42 rfl rfl ?_
  refine G2 X5 K (w484 H) Via.refl e5 B_1.2.2.1 d84_43 ?_
  intro T6 X6 e6
  refine G1 X6 K d84_46 rfl ?_
  refine G8 X6 K (W := 6) (tw H 629 rfl) (tw H 630 rfl) (nf_self K (tw H 632 rfl)) (tw H 632 rfl) (tw H 631 rfl) (w204 H) (tw H 633 rfl) (by decide) (rm85_170 H a3 p2 a8 a9 a10 a11 a12 Ol0 B_2) e6 B_2.1 rfl rfl rfl (lenOf pd_47 rfl) rfl d84_47 (by decide) ?_
  rintro T7 v7 L7 X7 ⟨rfl, N7q, e7⟩
  have N7 := Fr.app N4 N7q
  show Go _ _ _ _ _ (mkF _ _ _ [(.int (p2 % 3)), .long 1, .long 7, (.int ((p1 * 2) + 0)), .ref a7])
  refine G70 X7 K d84_50 rfl ?_
  refine G78 X7 K (tw H 634 rfl) d84_51 ?_
  refine G79 X7 K d84_54 rfl ?_
  refine G80 X7 K (z := (msk p2)) d84_55 rfl ?_
  refine G41 X7 K (vs' := (u1.set ((p1 * 2) + 0).toNatClampNeg (.long (msk p2)))) e7 A_1 cn_1.2.1 (lil li_1 cn_1.2.2.1) rfl d84_56 ?_
  intro T8 h8 X8 e8 W8 F8
  obtain ⟨N8, Ol8, Kp8⟩ := ivW N7 Ol0 (Keep.refl h0 [a7]) X8 W8 ge_2 (ow 0 rfl)
  refine G17 X8 K d84_57 (by decide) (by decide) ?_
  have Kp : Keep h0 T8.heap [a7] := by rw [e8]; exact Kp8
  exact ⟨rfl, N8, Kp, (by rw [e8]; exact F8)⟩
theorem rm81_175 (H : Hyp Z a0) (a1 : Addr) (p1 p2 : Int32) (a2 a3 a4 a5 a6 a7 a8 a9 a10 a11 a12 a13 a14 : Addr) (u1 : List Value) (k1 : ClassId) (Ol0 : Old Z (ζ Z) h0) (B_1 : Ω10 Z h0 a1 (.ref a2) (.ref a3) (.int 3) (.int 2) (.int 6) (.ref a4) (.ref a5) (.ref a6) (.ref a7) (.int 9) (.int 2147483647) (.int 2147483647)) (B_2 : Ω4 Z h0 a3 (.ref a8) (.ref a9) (.ref a10) (.ref a11) (.int 3) (.ref a12)) (cn_1 : Cn p1 p2 0) (B_3 : Ω6 Z h0 a11 (.ref a13) (.ref a14)) (ge_1 : (ζ Z) ≤ a14) (A_1 : Arv Z h0 a7 k1 .long 12 u1 (.long 0)) (li_1 : Li u1 p1 0 (.long 7) (.long 0)) (ge_2 : (ζ Z) ≤ a7) (ne_1 : a1 ≠ a7) :
    Mt l Z M94 C4 6 none [] ⟨3, 0, 0, 43⟩ #[.ref a1, .int p1, .int p2, .int 0] h0 (fun v h L => (v = none ∧ Fr (ζ Z) L ∧ Keep h0 h [a7] ∧ Arv Z h a7 k1 .long 12 (u1.set ((p1 * 2) + 0).toNatClampNeg (.long (msk p2))) (.long 0))) := by
  refine g_be (pf pn1) (ef_63 a1 p1 p2) fun T0 K X0 e0 => ?_
  have nw_a1 : a1 ∉ [a7] := (ninS ne_1 nin0)
  refine G0 X0 K d81_0 rfl rfl ?_
  refine G2 X0 K (w484 H) Via.refl e0 B_1.2.2.1 d81_1 ?_
  intro T1 X1 e1
  refine G1 X1 K d81_4 rfl ?_
  refine G8 X1 K (W := 0) (w615 H) (w616 H) (nf_self K (w618 H)) (w618 H) (w617 H) (w204 H) (w619 H) (by decide) (rm82_168 H a3 p2 a8 a9 a10 a11 a12 Ol0 B_2) e1 B_2.1 rfl rfl rfl (lenOf pd_47 rfl) rfl d81_5 (by decide) ?_
  rintro T2 v2 L2 X2 ⟨rfl, N2q, e2⟩
  have N2 := Fr.app (Fr.nil _) N2q
  show Go _ _ _ _ _ (mkF _ _ _ [(.int (p2 / 3))])
  rw [cn_1.1]
  refine G12 X2 K (L' := #[vr a1, vi p1, vi p2, vi 0, vi 0, un]) d81_8 rfl ?_
  refine G0 X2 K d81_10 rfl rfl ?_
  refine G2 X2 K (w484 H) Via.refl e2 B_1.2.2.1 d81_11 ?_
  intro T3 X3 e3
  refine G1 X3 K d81_14 rfl ?_
  refine G4 X3 K d81_15 rfl ?_
  refine G8 X3 K (W := 0) (w620 H) (w621 H) (nf_self K (w623 H)) (w623 H) (w622 H) (w204 H) (w624 H) (by decide) (rm83_173 H a3 p1 a8 a9 a10 a11 a12 a13 a14 Ol0 B_2 B_3 ge_1) e3 B_2.1 rfl rfl rfl (lenOf pd_5 rfl) rfl d81_17 (by decide) ?_
  rintro T4 v4 L4 X4 ⟨rfl, N4q, e4⟩
  have N4 := Fr.app N2 N4q
  show Go _ _ _ _ _ (mkF _ _ _ [(.int ((p1 * 2) + 0))])
  refine G12 X4 K (L' := #[vr a1, vi p1, vi p2, vi 0, vi 0, vi ((p1 * 2) + 0)]) d81_20 rfl ?_
  refine G1 X4 K d81_22 rfl ?_
  refine G15 103 X4 K d81_23 (by decide) (by decide) (by decide) ?_
  refine G0 X4 K d81_103 rfl rfl ?_
  refine G1 X4 K d81_104 rfl ?_
  refine G1 X4 K d81_105 rfl ?_
  refine G1 X4 K d81_106 rfl ?_
  refine G25 X4 K (W := 0) (tw H 625 rfl) (w627 H) (selPriv (w474 H) (w627 H) (w626 H) (by decide)) (w626 H) (w475 H) (tw H 628 rfl) (by decide) (rm84_174 H a1 p1 p2 a2 a3 a4 a5 a6 a7 a8 a9 a10 a11 a12 a13 a14 u1 k1 Ol0 B_1 B_2 cn_1 B_3 ge_1 A_1 li_1 ge_2) e4 B_1.1 rfl rfl rfl (lenOf pd_48 rfl) rfl d81_107 (by decide) ?_
  rintro T5 v5 L5 X5 ⟨rfl, N5q, Kc5, g1⟩
  obtain ⟨N5, Ol5, Kp5⟩ := ivK N4 Ol0 (Keep.refl h0 [a7]) N5q Kc5 (allS ge_2 all0) (kaS (ow 0 rfl) all0)
  show Go _ _ _ _ _ (mkF _ _ _ [])
  refine G1 X5 K d81_110 rfl ?_
  refine G11 X5 K d81_111 (by decide) ?_
  refine G0 X5 K d81_114 rfl rfl ?_
  have f1 := B_1.keep Kp5 nw_a1
  refine G2 X5 K (w530 H) Via.refl rfl f1.2.2.2.2.2.2.2.2.2.1 d81_115 ?_
  intro T6 X6 e6
  refine G4 X6 K d81_118 rfl ?_
  refine G68 X6 K (v := (.long (msk p2))) e6 g1 cn_1.2.1 (gd_self (lil li_1 cn_1.2.2.1)) d81_120 ?_
  refine G60 X6 K (v := 0) d81_121 (by decide) ?_
  refine G81 X6 K (z := 1) d81_122 cn_1.2.2.2 ?_
  refine G15 180 X6 K d81_123 (by decide) (by decide) (by decide) ?_
  refine G17 X6 K d81_180 (by decide) (by decide) ?_
  have Kp : Keep h0 T6.heap [a7] := by rw [e6]; exact Kp5
  exact ⟨rfl, N5, Kp, (by rw [e6]; exact g1)⟩
theorem rm86_176 (H : Hyp Z a0) (a1 : Addr) (p1 p2 : Int32) (a2 a3 a4 a5 a6 a7 a8 a9 a10 a11 a12 : Addr) (Ol0 : Old Z (ζ Z) h0) (B_1 : Ω10 Z h0 a1 (.ref a2) (.ref a3) (.int 3) (.int 2) (.int 6) (.ref a4) (.ref a5) (.ref a6) (.ref a7) (.int 9) (.int 2147483647) (.int 2147483647)) (B_2 : Ω4 Z h0 a3 (.ref a8) (.ref a9) (.ref a10) (.ref a11) (.int 3) (.ref a12)) (cl_1 : Cl p1 p2) :
    Mt l Z M99 C13 6 none [] ⟨1, 0, 0, 14⟩ #[.ref a1, .int p1, .int p2] h0 (fun v h L => (v = none ∧ Fr (ζ Z) L ∧ h = h0)) := by
  refine g_be (pf pn1) (ef_65 a1 p1 p2) fun T0 K X0 e0 => ?_
  refine G3 X0 K (v := 0) d86_0 (by decide) ?_
  refine G24 X0 K (L' := #[vr a1, vi p1, vi p2, vi 0, un, un]) d86_1 rfl ?_
  refine G1 X0 K d86_2 rfl ?_
  refine G0 X0 K d86_3 rfl rfl ?_
  refine G2 X0 K (w505 H) Via.refl e0 B_1.2.2.2.2.1 d86_4 ?_
  intro T1 X1 e1
  refine G10 X1 K d86_7 (by decide) ?_
  refine G1 X1 K d86_10 rfl ?_
  refine G0 X1 K d86_11 rfl rfl ?_
  refine G2 X1 K (w484 H) Via.refl e1 B_1.2.2.1 d86_12 ?_
  intro T2 X2 e2
  refine G1 X2 K d86_15 rfl ?_
  refine G8 X2 K (W := 1) (w615 H) (w616 H) (nf_self K (w618 H)) (w618 H) (w617 H) (w204 H) (w619 H) (by decide) (rm82_168 H a3 p1 a8 a9 a10 a11 a12 Ol0 B_2) e2 B_2.1 rfl rfl rfl (lenOf pd_47 rfl) rfl d86_16 (by decide) ?_
  rintro T3 v3 L3 X3 ⟨rfl, N3q, e3⟩
  have N3 := Fr.app (Fr.nil _) N3q
  show Go _ _ _ _ _ (mkF _ _ _ [(.int (p1 / 3)), .int 0])
  rw [(cl_ce cl_1).2.2.2.2.1]
  refine G19 101 X3 K d86_19 (by decide) (by decide) (by decide) ?_
  refine G22 X3 K (z := 1) (L' := #[vr a1, vi p1, vi p2, vi 1, un, un]) d86_101 rfl (by decide) rfl ?_
  refine G6 2 X3 K d86_104 (by decide) (by decide) ?_
  refine G1 X3 K d86_2 rfl ?_
  refine G0 X3 K d86_3 rfl rfl ?_
  refine G2 X3 K (w505 H) Via.refl e3 B_1.2.2.2.2.1 d86_4 ?_
  intro T4 X4 e4
  refine G10 X4 K d86_7 (by decide) ?_
  refine G1 X4 K d86_10 rfl ?_
  refine G0 X4 K d86_11 rfl rfl ?_
  refine G2 X4 K (w484 H) Via.refl e4 B_1.2.2.1 d86_12 ?_
  intro T5 X5 e5
  refine G1 X5 K d86_15 rfl ?_
  refine G8 X5 K (W := 1) (w615 H) (w616 H) (nf_self K (w618 H)) (w618 H) (w617 H) (w204 H) (w619 H) (by decide) (rm82_168 H a3 p1 a8 a9 a10 a11 a12 Ol0 B_2) e5 B_2.1 rfl rfl rfl (lenOf pd_47 rfl) rfl d86_16 (by decide) ?_
  rintro T6 v6 L6 X6 ⟨rfl, N6q, e6⟩
  have N6 := Fr.app N3 N6q
  show Go _ _ _ _ _ (mkF _ _ _ [(.int (p1 / 3)), .int 1])
  rw [(cl_ce cl_1).2.2.2.2.1]
  refine G10 X6 K d86_19 (by decide) ?_
  refine G1 X6 K d86_22 rfl ?_
  refine G0 X6 K d86_23 rfl rfl ?_
  refine G2 X6 K (w484 H) Via.refl e6 B_1.2.2.1 d86_24 ?_
  intro T7 X7 e7
  refine G1 X7 K d86_27 rfl ?_
  refine G8 X7 K (W := 1) (w615 H) (w616 H) (nf_self K (w618 H)) (w618 H) (w617 H) (w204 H) (w619 H) (by decide) (rm82_168 H a3 p2 a8 a9 a10 a11 a12 Ol0 B_2) e7 B_2.1 rfl rfl rfl (lenOf pd_47 rfl) rfl d86_28 (by decide) ?_
  rintro T8 v8 L8 X8 ⟨rfl, N8q, e8⟩
  have N8 := Fr.app N6 N8q
  show Go _ _ _ _ _ (mkF _ _ _ [(.int (p2 / 3)), .int 1])
  rw [(cl_ce cl_1).2.2.2.2.2]
  refine G10 X8 K d86_31 (by decide) ?_
  refine G6 101 X8 K d86_34 (by decide) (by decide) ?_
  refine G22 X8 K (z := 2) (L' := #[vr a1, vi p1, vi p2, vi 2, un, un]) d86_101 rfl (by decide) rfl ?_
  refine G6 2 X8 K d86_104 (by decide) (by decide) ?_
  refine G1 X8 K d86_2 rfl ?_
  refine G0 X8 K d86_3 rfl rfl ?_
  refine G2 X8 K (w505 H) Via.refl e8 B_1.2.2.2.2.1 d86_4 ?_
  intro T9 X9 e9
  refine G19 107 X9 K d86_7 (by decide) (by decide) (by decide) ?_
  refine G17 X9 K d86_107 (by decide) (by decide) ?_
  exact ⟨rfl, N8, e9⟩
theorem rm84_177 (H : Hyp Z a0) (a1 : Addr) (p1 p2 : Int32) (a2 a3 a4 a5 a6 a7 a8 a9 a10 a11 a12 a13 a14 : Addr) (u1 : List Value) (k1 : ClassId) (Ol0 : Old Z (ζ Z) h0) (B_1 : Ω10 Z h0 a1 (.ref a2) (.ref a3) (.int 3) (.int 2) (.int 6) (.ref a4) (.ref a5) (.ref a6) (.ref a7) (.int 9) (.int 2147483647) (.int 2147483647)) (B_2 : Ω4 Z h0 a3 (.ref a8) (.ref a9) (.ref a10) (.ref a11) (.int 3) (.ref a12)) (cn_1 : Cn p1 p2 1) (B_3 : Ω6 Z h0 a11 (.ref a13) (.ref a14)) (ge_1 : (ζ Z) ≤ a14) (A_1 : Arv Z h0 a6 k1 .int 12 u1 (.int 0)) (li_1 : Li u1 p1 1 (.int (-1)) (.int 0)) (ge_2 : (ζ Z) ≤ a6) :
    Mt l Z M97 C5 5 none [] ⟨2, 0, 0, 27⟩ #[.ref a1, .int p1, .int p2, .int 1] h0 (fun v h L => (v = none ∧ Fr (ζ Z) L ∧ Keep h0 h [a6] ∧ Arv Z h a6 k1 .int 12 (u1.set ((p1 * 2) + 1).toNatClampNeg (.int p2)) (.int 0))) := by
  refine g_be (pf pn1) (ef_66 a1 p1 p2) fun T0 K X0 e0 => ?_
  refine G0 X0 K d84_0 rfl rfl ?_
  refine G2 X0 K (w484 H) Via.refl e0 B_1.2.2.1 d84_1 ?_
  intro T1 X1 e1
  refine G1 X1 K d84_4 rfl ?_
  refine G0 X1 K d84_5 rfl rfl ?_
  refine G2 X1 K (w484 H) Via.refl e1 B_1.2.2.1 d84_6 ?_
  intro T2 X2 e2
  refine G1 X2 K d84_9 rfl ?_
  refine G8 X2 K (W := 2) (w615 H) (w616 H) (nf_self K (w618 H)) (w618 H) (w617 H) (w204 H) (w619 H) (by decide) (rm82_168 H a3 p2 a8 a9 a10 a11 a12 Ol0 B_2) e2 B_2.1 rfl rfl rfl (lenOf pd_47 rfl) rfl d84_10 (by decide) ?_
  rintro T3 v3 L3 X3 ⟨rfl, N3q, e3⟩
  have N3 := Fr.app (Fr.nil _) N3q
  show Go _ _ _ _ _ (mkF _ _ _ [(.int (p2 / 3)), .int p1, .ref a3])
  rw [cn_1.1]
  refine G8 X3 K (W := 0) (w620 H) (w621 H) (nf_self K (w623 H)) (w623 H) (w622 H) (w204 H) (w624 H) (by decide) (rm83_169 H a3 p1 a8 a9 a10 a11 a12 a13 a14 Ol0 B_2 B_3 ge_1) e3 B_2.1 rfl rfl rfl (lenOf pd_5 rfl) rfl d84_13 (by decide) ?_
  rintro T4 v4 L4 X4 ⟨rfl, N4q, e4⟩
  have N4 := Fr.app N3 N4q
  show Go _ _ _ _ _ (mkF _ _ _ [(.int ((p1 * 2) + 1))])
  refine G12 X4 K (L' := #[vr a1, vi p1, vi p2, vi 1, vi ((p1 * 2) + 1)]) d84_16 rfl ?_
  refine G1 X4 K d84_18 rfl ?_
  refine G11 X4 K d84_19 (by decide) ?_
  refine G0 X4 K d84_22 rfl rfl ?_
  refine G2 X4 K (w524 H) Via.refl e4 B_1.2.2.2.2.2.2.2.2.1 d84_23 ?_
  intro T5 X5 e5
  refine G4 X5 K d84_26 rfl ?_
  refine G1 X5 K d84_28 rfl ?_
  refine G39 X5 K (vs' := (u1.set ((p1 * 2) + 1).toNatClampNeg (.int p2))) e5 A_1 cn_1.2.1 (lil li_1 cn_1.2.2.1) rfl d84_29 ?_
  intro T6 h6 X6 e6 W6 F6
  obtain ⟨N6, Ol6, Kp6⟩ := ivW N4 Ol0 (Keep.refl h0 [a6]) X6 W6 ge_2 (ow 0 rfl)
  refine G6 57 X6 K d84_30 (by decide) (by decide) ?_
  refine G17 X6 K d84_57 (by decide) (by decide) ?_
  have Kp : Keep h0 T6.heap [a6] := by rw [e6]; exact Kp6
  exact ⟨rfl, N6, Kp, (by rw [e6]; exact F6)⟩
theorem rm81_178 (H : Hyp Z a0) (a1 : Addr) (p1 p2 : Int32) (a2 a3 a4 a5 a6 a7 a8 a9 a10 a11 a12 a13 a14 : Addr) (u1 : List Value) (k1 : ClassId) (Ol0 : Old Z (ζ Z) h0) (B_1 : Ω10 Z h0 a1 (.ref a2) (.ref a3) (.int 3) (.int 2) (.int 6) (.ref a4) (.ref a5) (.ref a6) (.ref a7) (.int 9) (.int 2147483647) (.int 2147483647)) (B_2 : Ω4 Z h0 a3 (.ref a8) (.ref a9) (.ref a10) (.ref a11) (.int 3) (.ref a12)) (cn_1 : Cn p1 p2 1) (B_3 : Ω6 Z h0 a11 (.ref a13) (.ref a14)) (ge_1 : (ζ Z) ≤ a14) (A_1 : Arv Z h0 a6 k1 .int 12 u1 (.int 0)) (li_1 : Li u1 p1 1 (.int (-1)) (.int 0)) (ge_2 : (ζ Z) ≤ a6) :
    Mt l Z M94 C4 6 none [] ⟨3, 0, 0, 43⟩ #[.ref a1, .int p1, .int p2, .int 1] h0 (fun v h L => (v = none ∧ Fr (ζ Z) L ∧ Keep h0 h [a6] ∧ Arv Z h a6 k1 .int 12 (u1.set ((p1 * 2) + 1).toNatClampNeg (.int p2)) (.int 0))) := by
  refine g_be (pf pn1) (ef_67 a1 p1 p2) fun T0 K X0 e0 => ?_
  refine G0 X0 K d81_0 rfl rfl ?_
  refine G2 X0 K (w484 H) Via.refl e0 B_1.2.2.1 d81_1 ?_
  intro T1 X1 e1
  refine G1 X1 K d81_4 rfl ?_
  refine G8 X1 K (W := 0) (w615 H) (w616 H) (nf_self K (w618 H)) (w618 H) (w617 H) (w204 H) (w619 H) (by decide) (rm82_168 H a3 p2 a8 a9 a10 a11 a12 Ol0 B_2) e1 B_2.1 rfl rfl rfl (lenOf pd_47 rfl) rfl d81_5 (by decide) ?_
  rintro T2 v2 L2 X2 ⟨rfl, N2q, e2⟩
  have N2 := Fr.app (Fr.nil _) N2q
  show Go _ _ _ _ _ (mkF _ _ _ [(.int (p2 / 3))])
  rw [cn_1.1]
  refine G12 X2 K (L' := #[vr a1, vi p1, vi p2, vi 1, vi 1, un]) d81_8 rfl ?_
  refine G0 X2 K d81_10 rfl rfl ?_
  refine G2 X2 K (w484 H) Via.refl e2 B_1.2.2.1 d81_11 ?_
  intro T3 X3 e3
  refine G1 X3 K d81_14 rfl ?_
  refine G4 X3 K d81_15 rfl ?_
  refine G8 X3 K (W := 0) (w620 H) (w621 H) (nf_self K (w623 H)) (w623 H) (w622 H) (w204 H) (w624 H) (by decide) (rm83_169 H a3 p1 a8 a9 a10 a11 a12 a13 a14 Ol0 B_2 B_3 ge_1) e3 B_2.1 rfl rfl rfl (lenOf pd_5 rfl) rfl d81_17 (by decide) ?_
  rintro T4 v4 L4 X4 ⟨rfl, N4q, e4⟩
  have N4 := Fr.app N2 N4q
  show Go _ _ _ _ _ (mkF _ _ _ [(.int ((p1 * 2) + 1))])
  refine G12 X4 K (L' := #[vr a1, vi p1, vi p2, vi 1, vi 1, vi ((p1 * 2) + 1)]) d81_20 rfl ?_
  refine G1 X4 K d81_22 rfl ?_
  refine G11 X4 K d81_23 (by decide) ?_
  refine G0 X4 K d81_26 rfl rfl ?_
  refine G2 X4 K (w524 H) Via.refl e4 B_1.2.2.2.2.2.2.2.2.1 d81_27 ?_
  intro T5 X5 e5
  refine G4 X5 K d81_30 rfl ?_
  refine G67 X5 K (v := (.int (-1))) e5 A_1 cn_1.2.1 li_1.2 d81_32 ?_
  refine G15 103 X5 K d81_33 (by decide) (by decide) (by decide) ?_
  refine G0 X5 K d81_103 rfl rfl ?_
  refine G1 X5 K d81_104 rfl ?_
  refine G1 X5 K d81_105 rfl ?_
  refine G1 X5 K d81_106 rfl ?_
  refine G25 X5 K (W := 0) (tw H 625 rfl) (w627 H) (selPriv (w474 H) (w627 H) (w626 H) (by decide)) (w626 H) (w475 H) (tw H 628 rfl) (by decide) (rm84_177 H a1 p1 p2 a2 a3 a4 a5 a6 a7 a8 a9 a10 a11 a12 a13 a14 u1 k1 Ol0 B_1 B_2 cn_1 B_3 ge_1 A_1 li_1 ge_2) e5 B_1.1 rfl rfl rfl (lenOf pd_48 rfl) rfl d81_107 (by decide) ?_
  rintro T6 v6 L6 X6 ⟨rfl, N6q, Kc6, g1⟩
  obtain ⟨N6, Ol6, Kp6⟩ := ivK N4 Ol0 (Keep.refl h0 [a6]) N6q Kc6 (allS ge_2 all0) (kaS (ow 0 rfl) all0)
  show Go _ _ _ _ _ (mkF _ _ _ [])
  refine G1 X6 K d81_110 rfl ?_
  refine G15 180 X6 K d81_111 (by decide) (by decide) (by decide) ?_
  refine G17 X6 K d81_180 (by decide) (by decide) ?_
  exact ⟨rfl, N6, Kp6, g1⟩
theorem rm84_179 (H : Hyp Z a0) (a1 : Addr) (p1 p2 : Int32) (a2 a3 a4 a5 a6 a7 a8 a9 a10 a11 a12 a13 a14 : Addr) (u1 : List Value) (k1 : ClassId) (Ol0 : Old Z (ζ Z) h0) (B_1 : Ω10 Z h0 a1 (.ref a2) (.ref a3) (.int 3) (.int 2) (.int 6) (.ref a4) (.ref a5) (.ref a6) (.ref a7) (.int 9) (.int 2147483647) (.int 2147483647)) (B_2 : Ω4 Z h0 a3 (.ref a8) (.ref a9) (.ref a10) (.ref a11) (.int 3) (.ref a12)) (cn_1 : Cn p1 p2 0) (B_3 : Ω6 Z h0 a11 (.ref a13) (.ref a14)) (ge_1 : (ζ Z) ≤ a14) (A_1 : Arv Z h0 a6 k1 .int 12 u1 (.int 0)) (li_1 : Li u1 p1 0 (.int (-1)) (.int 0)) (ge_2 : (ζ Z) ≤ a6) :
    Mt l Z M97 C5 5 none [] ⟨2, 0, 0, 27⟩ #[.ref a1, .int p1, .int p2, .int 1] h0 (fun v h L => (v = none ∧ Fr (ζ Z) L ∧ Keep h0 h [a6] ∧ Arv Z h a6 k1 .int 12 (u1.set ((p1 * 2) + 0).toNatClampNeg (.int p2)) (.int 0))) := by
  refine g_be (pf pn1) (ef_66 a1 p1 p2) fun T0 K X0 e0 => ?_
  refine G0 X0 K d84_0 rfl rfl ?_
  refine G2 X0 K (w484 H) Via.refl e0 B_1.2.2.1 d84_1 ?_
  intro T1 X1 e1
  refine G1 X1 K d84_4 rfl ?_
  refine G0 X1 K d84_5 rfl rfl ?_
  refine G2 X1 K (w484 H) Via.refl e1 B_1.2.2.1 d84_6 ?_
  intro T2 X2 e2
  refine G1 X2 K d84_9 rfl ?_
  refine G8 X2 K (W := 2) (w615 H) (w616 H) (nf_self K (w618 H)) (w618 H) (w617 H) (w204 H) (w619 H) (by decide) (rm82_168 H a3 p2 a8 a9 a10 a11 a12 Ol0 B_2) e2 B_2.1 rfl rfl rfl (lenOf pd_47 rfl) rfl d84_10 (by decide) ?_
  rintro T3 v3 L3 X3 ⟨rfl, N3q, e3⟩
  have N3 := Fr.app (Fr.nil _) N3q
  show Go _ _ _ _ _ (mkF _ _ _ [(.int (p2 / 3)), .int p1, .ref a3])
  rw [cn_1.1]
  refine G8 X3 K (W := 0) (w620 H) (w621 H) (nf_self K (w623 H)) (w623 H) (w622 H) (w204 H) (w624 H) (by decide) (rm83_173 H a3 p1 a8 a9 a10 a11 a12 a13 a14 Ol0 B_2 B_3 ge_1) e3 B_2.1 rfl rfl rfl (lenOf pd_5 rfl) rfl d84_13 (by decide) ?_
  rintro T4 v4 L4 X4 ⟨rfl, N4q, e4⟩
  have N4 := Fr.app N3 N4q
  show Go _ _ _ _ _ (mkF _ _ _ [(.int ((p1 * 2) + 0))])
  refine G12 X4 K (L' := #[vr a1, vi p1, vi p2, vi 1, vi ((p1 * 2) + 0)]) d84_16 rfl ?_
  refine G1 X4 K d84_18 rfl ?_
  refine G11 X4 K d84_19 (by decide) ?_
  refine G0 X4 K d84_22 rfl rfl ?_
  refine G2 X4 K (w524 H) Via.refl e4 B_1.2.2.2.2.2.2.2.2.1 d84_23 ?_
  intro T5 X5 e5
  refine G4 X5 K d84_26 rfl ?_
  refine G1 X5 K d84_28 rfl ?_
  refine G39 X5 K (vs' := (u1.set ((p1 * 2) + 0).toNatClampNeg (.int p2))) e5 A_1 cn_1.2.1 (lil li_1 cn_1.2.2.1) rfl d84_29 ?_
  intro T6 h6 X6 e6 W6 F6
  obtain ⟨N6, Ol6, Kp6⟩ := ivW N4 Ol0 (Keep.refl h0 [a6]) X6 W6 ge_2 (ow 0 rfl)
  refine G6 57 X6 K d84_30 (by decide) (by decide) ?_
  refine G17 X6 K d84_57 (by decide) (by decide) ?_
  have Kp : Keep h0 T6.heap [a6] := by rw [e6]; exact Kp6
  exact ⟨rfl, N6, Kp, (by rw [e6]; exact F6)⟩
theorem rm81_180 (H : Hyp Z a0) (a1 : Addr) (p1 p2 : Int32) (a2 a3 a4 a5 a6 a7 a8 a9 a10 a11 a12 a13 a14 : Addr) (u1 : List Value) (k1 : ClassId) (Ol0 : Old Z (ζ Z) h0) (B_1 : Ω10 Z h0 a1 (.ref a2) (.ref a3) (.int 3) (.int 2) (.int 6) (.ref a4) (.ref a5) (.ref a6) (.ref a7) (.int 9) (.int 2147483647) (.int 2147483647)) (B_2 : Ω4 Z h0 a3 (.ref a8) (.ref a9) (.ref a10) (.ref a11) (.int 3) (.ref a12)) (cn_1 : Cn p1 p2 0) (B_3 : Ω6 Z h0 a11 (.ref a13) (.ref a14)) (ge_1 : (ζ Z) ≤ a14) (A_1 : Arv Z h0 a6 k1 .int 12 u1 (.int 0)) (li_1 : Li u1 p1 0 (.int (-1)) (.int 0)) (ge_2 : (ζ Z) ≤ a6) :
    Mt l Z M94 C4 6 none [] ⟨3, 0, 0, 43⟩ #[.ref a1, .int p1, .int p2, .int 1] h0 (fun v h L => (v = none ∧ Fr (ζ Z) L ∧ Keep h0 h [a6] ∧ Arv Z h a6 k1 .int 12 (u1.set ((p1 * 2) + 0).toNatClampNeg (.int p2)) (.int 0))) := by
  refine g_be (pf pn1) (ef_67 a1 p1 p2) fun T0 K X0 e0 => ?_
  refine G0 X0 K d81_0 rfl rfl ?_
  refine G2 X0 K (w484 H) Via.refl e0 B_1.2.2.1 d81_1 ?_
  intro T1 X1 e1
  refine G1 X1 K d81_4 rfl ?_
  refine G8 X1 K (W := 0) (w615 H) (w616 H) (nf_self K (w618 H)) (w618 H) (w617 H) (w204 H) (w619 H) (by decide) (rm82_168 H a3 p2 a8 a9 a10 a11 a12 Ol0 B_2) e1 B_2.1 rfl rfl rfl (lenOf pd_47 rfl) rfl d81_5 (by decide) ?_
  rintro T2 v2 L2 X2 ⟨rfl, N2q, e2⟩
  have N2 := Fr.app (Fr.nil _) N2q
  show Go _ _ _ _ _ (mkF _ _ _ [(.int (p2 / 3))])
  rw [cn_1.1]
  refine G12 X2 K (L' := #[vr a1, vi p1, vi p2, vi 1, vi 0, un]) d81_8 rfl ?_
  refine G0 X2 K d81_10 rfl rfl ?_
  refine G2 X2 K (w484 H) Via.refl e2 B_1.2.2.1 d81_11 ?_
  intro T3 X3 e3
  refine G1 X3 K d81_14 rfl ?_
  refine G4 X3 K d81_15 rfl ?_
  refine G8 X3 K (W := 0) (w620 H) (w621 H) (nf_self K (w623 H)) (w623 H) (w622 H) (w204 H) (w624 H) (by decide) (rm83_173 H a3 p1 a8 a9 a10 a11 a12 a13 a14 Ol0 B_2 B_3 ge_1) e3 B_2.1 rfl rfl rfl (lenOf pd_5 rfl) rfl d81_17 (by decide) ?_
  rintro T4 v4 L4 X4 ⟨rfl, N4q, e4⟩
  have N4 := Fr.app N2 N4q
  show Go _ _ _ _ _ (mkF _ _ _ [(.int ((p1 * 2) + 0))])
  refine G12 X4 K (L' := #[vr a1, vi p1, vi p2, vi 1, vi 0, vi ((p1 * 2) + 0)]) d81_20 rfl ?_
  refine G1 X4 K d81_22 rfl ?_
  refine G11 X4 K d81_23 (by decide) ?_
  refine G0 X4 K d81_26 rfl rfl ?_
  refine G2 X4 K (w524 H) Via.refl e4 B_1.2.2.2.2.2.2.2.2.1 d81_27 ?_
  intro T5 X5 e5
  refine G4 X5 K d81_30 rfl ?_
  refine G67 X5 K (v := (.int (-1))) e5 A_1 cn_1.2.1 li_1.2 d81_32 ?_
  refine G15 103 X5 K d81_33 (by decide) (by decide) (by decide) ?_
  refine G0 X5 K d81_103 rfl rfl ?_
  refine G1 X5 K d81_104 rfl ?_
  refine G1 X5 K d81_105 rfl ?_
  refine G1 X5 K d81_106 rfl ?_
  refine G25 X5 K (W := 0) (tw H 625 rfl) (w627 H) (selPriv (w474 H) (w627 H) (w626 H) (by decide)) (w626 H) (w475 H) (tw H 628 rfl) (by decide) (rm84_179 H a1 p1 p2 a2 a3 a4 a5 a6 a7 a8 a9 a10 a11 a12 a13 a14 u1 k1 Ol0 B_1 B_2 cn_1 B_3 ge_1 A_1 li_1 ge_2) e5 B_1.1 rfl rfl rfl (lenOf pd_48 rfl) rfl d81_107 (by decide) ?_
  rintro T6 v6 L6 X6 ⟨rfl, N6q, Kc6, g1⟩
  obtain ⟨N6, Ol6, Kp6⟩ := ivK N4 Ol0 (Keep.refl h0 [a6]) N6q Kc6 (allS ge_2 all0) (kaS (ow 0 rfl) all0)
  show Go _ _ _ _ _ (mkF _ _ _ [])
  refine G1 X6 K d81_110 rfl ?_
  refine G15 180 X6 K d81_111 (by decide) (by decide) (by decide) ?_
  refine G17 X6 K d81_180 (by decide) (by decide) ?_
  exact ⟨rfl, N6, Kp6, g1⟩
theorem rm87_181 (H : Hyp Z a0) (a1 : Addr) (p1 p2 : Int32) (a2 a3 a4 a5 a6 a7 a8 a9 a10 a11 a12 : Addr) (Ol0 : Old Z (ζ Z) h0) (B_1 : Ω10 Z h0 a1 (.ref a2) (.ref a3) (.int 3) (.int 2) (.int 6) (.ref a4) (.ref a5) (.ref a6) (.ref a7) (.int 9) (.int 2147483647) (.int 2147483647)) (B_2 : Ω4 Z h0 a3 (.ref a8) (.ref a9) (.ref a10) (.ref a11) (.int 3) (.ref a12)) (cl_1 : Cl p1 p2) :
    Mt l Z M100 C14 4 none [] ⟨1, 0, 0, 14⟩ #[.ref a1, .int p1, .int p2] h0 (fun v h L => (v = none ∧ Fr (ζ Z) L ∧ h = h0)) := by
  refine g_be (pf pn1) (ef_68 a1 p1 p2) fun T0 K X0 e0 => ?_
  refine G3 X0 K (v := 0) d87_0 (by decide) ?_
  refine G24 X0 K (L' := #[vr a1, vi p1, vi p2, vi 0]) d87_1 rfl ?_
  refine G1 X0 K d87_2 rfl ?_
  refine G0 X0 K d87_3 rfl rfl ?_
  refine G2 X0 K (w505 H) Via.refl e0 B_1.2.2.2.2.1 d87_4 ?_
  intro T1 X1 e1
  refine G10 X1 K d87_7 (by decide) ?_
  refine G1 X1 K d87_10 rfl ?_
  refine G0 X1 K d87_11 rfl rfl ?_
  refine G2 X1 K (w484 H) Via.refl e1 B_1.2.2.1 d87_12 ?_
  intro T2 X2 e2
  refine G1 X2 K d87_15 rfl ?_
  refine G8 X2 K (W := 1) (w615 H) (w616 H) (nf_self K (w618 H)) (w618 H) (w617 H) (w204 H) (w619 H) (by decide) (rm82_168 H a3 p1 a8 a9 a10 a11 a12 Ol0 B_2) e2 B_2.1 rfl rfl rfl (lenOf pd_47 rfl) rfl d87_16 (by decide) ?_
  rintro T3 v3 L3 X3 ⟨rfl, N3q, e3⟩
  have N3 := Fr.app (Fr.nil _) N3q
  show Go _ _ _ _ _ (mkF _ _ _ [(.int (p1 / 3)), .int 0])
  rw [(cl_ce cl_1).2.2.2.2.1]
  refine G19 68 X3 K d87_19 (by decide) (by decide) (by decide) ?_
  refine G22 X3 K (z := 1) (L' := #[vr a1, vi p1, vi p2, vi 1]) d87_68 rfl (by decide) rfl ?_
  refine G6 2 X3 K d87_71 (by decide) (by decide) ?_
  refine G1 X3 K d87_2 rfl ?_
  refine G0 X3 K d87_3 rfl rfl ?_
  refine G2 X3 K (w505 H) Via.refl e3 B_1.2.2.2.2.1 d87_4 ?_
  intro T4 X4 e4
  refine G10 X4 K d87_7 (by decide) ?_
  refine G1 X4 K d87_10 rfl ?_
  refine G0 X4 K d87_11 rfl rfl ?_
  refine G2 X4 K (w484 H) Via.refl e4 B_1.2.2.1 d87_12 ?_
  intro T5 X5 e5
  refine G1 X5 K d87_15 rfl ?_
  refine G8 X5 K (W := 1) (w615 H) (w616 H) (nf_self K (w618 H)) (w618 H) (w617 H) (w204 H) (w619 H) (by decide) (rm82_168 H a3 p1 a8 a9 a10 a11 a12 Ol0 B_2) e5 B_2.1 rfl rfl rfl (lenOf pd_47 rfl) rfl d87_16 (by decide) ?_
  rintro T6 v6 L6 X6 ⟨rfl, N6q, e6⟩
  have N6 := Fr.app N3 N6q
  show Go _ _ _ _ _ (mkF _ _ _ [(.int (p1 / 3)), .int 1])
  rw [(cl_ce cl_1).2.2.2.2.1]
  refine G10 X6 K d87_19 (by decide) ?_
  refine G1 X6 K d87_22 rfl ?_
  refine G0 X6 K d87_23 rfl rfl ?_
  refine G2 X6 K (w484 H) Via.refl e6 B_1.2.2.1 d87_24 ?_
  intro T7 X7 e7
  refine G1 X7 K d87_27 rfl ?_
  refine G8 X7 K (W := 1) (w615 H) (w616 H) (nf_self K (w618 H)) (w618 H) (w617 H) (w204 H) (w619 H) (by decide) (rm82_168 H a3 p2 a8 a9 a10 a11 a12 Ol0 B_2) e7 B_2.1 rfl rfl rfl (lenOf pd_47 rfl) rfl d87_28 (by decide) ?_
  rintro T8 v8 L8 X8 ⟨rfl, N8q, e8⟩
  have N8 := Fr.app N6 N8q
  show Go _ _ _ _ _ (mkF _ _ _ [(.int (p2 / 3)), .int 1])
  rw [(cl_ce cl_1).2.2.2.2.2]
  refine G10 X8 K d87_31 (by decide) ?_
  refine G6 68 X8 K d87_34 (by decide) (by decide) ?_
  refine G22 X8 K (z := 2) (L' := #[vr a1, vi p1, vi p2, vi 2]) d87_68 rfl (by decide) rfl ?_
  refine G6 2 X8 K d87_71 (by decide) (by decide) ?_
  refine G1 X8 K d87_2 rfl ?_
  refine G0 X8 K d87_3 rfl rfl ?_
  refine G2 X8 K (w505 H) Via.refl e8 B_1.2.2.2.2.1 d87_4 ?_
  intro T9 X9 e9
  refine G19 74 X9 K d87_7 (by decide) (by decide) (by decide) ?_
  refine G17 X9 K d87_74 (by decide) (by decide) ?_
  exact ⟨rfl, N8, e9⟩
theorem rm73_182 (H : Hyp Z a0) (a1 : Addr) (p1 p2 p3 : Int32) (a2 a3 a4 a5 a6 a7 a8 : Addr) (u1 : List Value) (k1 : ClassId) (u2 : List Value) (k2 : ClassId) (u3 : List Value) (k3 : ClassId) (u4 : List Value) (k4 k5 : ClassId) (a9 a10 a11 a12 a13 a14 a15 : Addr) (Ol0 : Old Z (ζ Z) h0) (B_1 : Ω10 Z h0 a1 (.ref a3) (.ref a4) (.int 3) (.int 2) (.int 6) (.ref a5) (.ref a6) (.ref a7) (.ref a8) (.int 9) (.int 2147483647) (.int 2147483647)) (A_1 : Arv Z h0 a5 k1 .byte 36 u1 (.int 0)) (A_2 : Arv Z h0 a6 k2 .int 36 u2 (.int 0)) (A_3 : Arv Z h0 a7 k3 .int 12 u3 (.int 0)) (A_4 : Arv Z h0 a8 k4 .long 12 u4 (.long 0)) (G_1 : Gs u1 u2 u3 u4 p1 p2) (Y_1 : p3 = 0 ∨ p3 = 1) (B_2 : Ω0 Z h0 a3 (.int 0) (.ref (ad1 Z a0)) (.int 0)) (A_5 : Arv Z h0 a2 k5 .int 0 [] (.int 0)) (ge_1 : (ζ Z) ≤ a3) (ne_1 : a5 ≠ a3) (ge_2 : (ζ Z) ≤ a5) (ne_2 : a6 ≠ a3) (ne_3 : a6 ≠ a5) (ge_3 : (ζ Z) ≤ a6) (B_3 : Ω4 Z h0 a4 (.ref a9) (.ref a10) (.ref a11) (.ref a12) (.int 3) (.ref a13)) (B_4 : Ω6 Z h0 a12 (.ref a14) (.ref a15)) (ge_4 : (ζ Z) ≤ a15) (ne_4 : a8 ≠ a3) (ne_5 : a8 ≠ a5) (ne_6 : a8 ≠ a6) (ge_5 : (ζ Z) ≤ a8) (ne_7 : a1 ≠ a8) (ne_8 : a3 ≠ a8) (ne_9 : a3 ≠ a6) (ne_10 : a3 ≠ a5) (ne_11 : a5 ≠ a6) (ne_12 : a5 ≠ a8) (ne_13 : a6 ≠ a8) (ne_14 : a7 ≠ a8) (ne_15 : a7 ≠ a6) (ne_16 : a7 ≠ a5) (ne_17 : a7 ≠ a3) (ge_6 : (ζ Z) ≤ a7) (ne_18 : a3 ≠ a7) (ne_19 : a5 ≠ a7) (ne_20 : a6 ≠ a7) (ne_21 : a8 ≠ a7) (ne_22 : a1 ≠ a3) (ne_23 : a1 ≠ a7) (ne_24 : a1 ≠ a6) (ne_25 : a1 ≠ a5) (ne_26 : a12 ≠ a3) (ne_27 : a12 ≠ a8) (ne_28 : a12 ≠ a7) (ne_29 : a12 ≠ a6) (ne_30 : a12 ≠ a5) (ne_31 : a2 ≠ a3) (ne_32 : a2 ≠ a8) (ne_33 : a2 ≠ a7) (ne_34 : a2 ≠ a6) (ne_35 : a2 ≠ a5) (ne_36 : a4 ≠ a3) (ne_37 : a4 ≠ a8) (ne_38 : a4 ≠ a7) (ne_39 : a4 ≠ a6) (ne_40 : a4 ≠ a5) :
    Mt l Z M86 C0 12 none [] ⟨5, 3, 18, 102⟩ #[.ref a1, .int p1, .int p2, .int p3, .null, .null, .null, .ref a2] h0 (fun v h L => (∃ (bx2 : Addr) (kB2 : ClassId) (b7 : Addr), ∃ (w1 : List Value), ∃ (w2 : List Value), Of u3 w1 p1 p2 ∧ Of u4 w2 p1 p2 ∧ v = none ∧ Fr (ζ Z) L ∧ Keep h0 h [a5, a6, a7, a8, a3] ∧ h0.size ≤ bx2 ∧ Ω0 Z h a3 (.int 1) (.ref bx2) (.int 1) ∧ Arv Z h a5 k1 .byte 36 (u1.set ((p1 * 6) + p2).toNatClampNeg (.int (vl p3))) (.int 0) ∧ Arv Z h a6 k2 .int 36 (u2.set ((p1 * 6) + p2).toNatClampNeg (.int 1)) (.int 0) ∧ Arv Z h a7 k3 .int 12 w1 (.int 0) ∧ Arv Z h a8 k4 .long 12 w2 (.long 0) ∧ Arv Z h bx2 kB2 (.object Q3) 10 [.ref b7, .null, .null, .null, .null, .null, .null, .null, .null, .null] .null ∧ Exa Z h bx2 Q7 ∧ Ovr Z kB2 Q3)) := by
  refine g_be (pf pn1) (ef_69 a1 p1 p2 p3 a2) fun T0 K X0 e0 => ?_
  have nw_a1 : a1 ∉ [a5, a6, a7, a8, a3] := (ninS ne_25 (ninS ne_24 (ninS ne_23 (ninS ne_7 (ninS ne_22 nin0)))))
  have nw_a12 : a12 ∉ [a5, a6, a7, a8, a3] := (ninS ne_30 (ninS ne_29 (ninS ne_28 (ninS ne_27 (ninS ne_26 nin0)))))
  have nw_a2 : a2 ∉ [a5, a6, a7, a8, a3] := (ninS ne_35 (ninS ne_34 (ninS ne_33 (ninS ne_32 (ninS ne_31 nin0)))))
  have nw_a4 : a4 ∉ [a5, a6, a7, a8, a3] := (ninS ne_40 (ninS ne_39 (ninS ne_38 (ninS ne_37 (ninS ne_36 nin0)))))
  refine G0 X0 K d73_0 rfl rfl ?_
  refine G1 X0 K d73_1 rfl ?_
  refine G1 X0 K d73_2 rfl ?_
  refine G8 X0 K (W := 0) (tw H 547 rfl) (tw H 548 rfl) (nf_self K (w550 H)) (w550 H) (tw H 549 rfl) (w475 H) (tw H 551 rfl) (by decide) (rm71_152 H a1 p1 p2 a3 a4 a5 a6 a7 a8 Ol0 (cl_ce G_1.1).1 B_1) e0 B_1.1 rfl rfl rfl (lenOf pd_5 rfl) rfl d73_3 (by decide) ?_
  rintro T1 v1 L1 X1 ⟨rfl, N1q, e1⟩
  have N1 := Fr.app (Fr.nil _) N1q
  show Go _ _ _ _ _ (mkF _ _ _ [(.int ((p1 * 6) + p2))])
  refine G12 X1 K (L' := #[vr a1, vi p1, vi p2, vi p3, vn, vn, vn, vr a2, vi ((p1 * 6) + p2), un, un, un]) d73_6 rfl ?_
  refine G1 X1 K d73_8 rfl ?_
  refine G44 X1 K (q := 17) (v := (vl p3)) d73_9 d73_12 d73_13 d73_16 (u := 1) (w := 2) (by decide) (by decide) rfl rfl ?_
  refine G12 X1 K (L' := #[vr a1, vi p1, vi p2, vi p3, vn, vn, vn, vr a2, vi ((p1 * 6) + p2), vi (vl p3), un, un]) d73_17 rfl ?_
  refine G0 X1 K d73_19 rfl rfl ?_
  refine G2 X1 K (w514 H) Via.refl e1 B_1.2.2.2.2.2.2.1 d73_20 ?_
  intro T2 X2 e2
  refine G4 X2 K d73_23 rfl ?_
  refine G42 X2 K (v := (.int 0)) e2 A_1 (cl_ce G_1.1).2.2.1 G_1.2.2.2.1 d73_25 ?_
  refine G4 X2 K d73_26 rfl ?_
  refine G19 32 X2 K d73_28 (feq (vl_ne p3)).2 (by decide) (by decide) ?_
  refine G0 X2 K d73_32 rfl rfl ?_
  refine G2 X2 K (w514 H) Via.refl e2 B_1.2.2.2.2.2.2.1 d73_33 ?_
  intro T3 X3 e3
  refine G4 X3 K d73_36 rfl ?_
  refine G42 X3 K (v := (.int 0)) e3 A_1 (cl_ce G_1.1).2.2.1 G_1.2.2.2.1 d73_38 ?_
  refine G15 131 X3 K d73_39 (by decide) (by decide) (by decide) ?_
  refine G0 X3 K d73_131 rfl rfl ?_
  refine G2 X3 K (w482 H) Via.refl e3 B_1.2.1 d73_132 ?_
  intro T4 X4 e4
  refine G20 X4 K (W := 0) (tw H 561 rfl) (w281 H) (mvT K.z (w282 H)) (tw H 291 rfl) (tw H 292 rfl) (tw H 293 rfl) (tw H 294 rfl) (w199 H) (w3 H) (tw H 295 rfl) (by decide) (rm40_156 H a3 Ol0 B_2) e4 B_2.1 rfl rfl rfl (lenOf pd_23 rfl) rfl d73_135 (by decide) ?_
  rintro T5 v5 L5 X5 ⟨rfl, N5q, e5⟩
  have N5 := Fr.app N1 N5q
  show Go _ _ _ _ _ (mkF _ _ _ [.int 0])
  refine G0 X5 K d73_140 rfl rfl ?_
  refine G2 X5 K (tw H 540 rfl) Via.refl e5 B_1.2.2.2.2.2.2.2.2.2.2.2.2 d73_141 ?_
  intro T6 X6 e6
  refine G19 155 X6 K d73_144 (by decide) (by decide) (by decide) ?_
  refine G27 X6 K (tw H 562 rfl) (w563 H) (w564 H) e6 d73_155 (by decide) (by decide) ?_
  intro T7 h7 b7 X7 e7 E7 z7 A7 D7
  obtain ⟨sz7, ge7, Ol7, Kp7⟩ := ivE Ol0 (Keep.refl h0 [a5, a6, a7, a8, a3]) E7 z7
  have so1 := Sd.one b7
  have O7 := Ω11.new H A7 D7
  refine G9 X7 K d73_158 rfl ?_
  refine G0 X7 K d73_159 rfl rfl ?_
  have f1 := B_1.keep Kp7 nw_a1
  refine G2 X7 K (w482 H) Via.refl e7 f1.2.1 d73_160 ?_
  intro T8 X8 e8
  have f2 := (B_2.ext E7)
  refine G20 X8 K (W := 2) (tw H 561 rfl) (w281 H) (mvT K.z (w282 H)) (tw H 291 rfl) (tw H 292 rfl) (tw H 293 rfl) (tw H 294 rfl) (w199 H) (w3 H) (tw H 295 rfl) (by decide) (rm40_156 H a3 Ol7 f2) e8 f2.1 rfl rfl rfl (lenOf pd_23 rfl) rfl d73_163 (by decide) ?_
  rintro T9 v9 L9 X9 ⟨rfl, N9q, e9⟩
  have N9 := Fr.app N5 N9q
  show Go _ _ _ _ _ (mkF _ _ _ [.int 0, .ref b7, .ref b7])
  refine G3 X9 K (v := 1) d73_168 (by decide) ?_
  refine G16 X9 K d73_169 (z := 1) (by decide) ?_
  refine G1 X9 K d73_170 rfl ?_
  refine G1 X9 K d73_171 rfl ?_
  refine G14 X9 K (W := 3) (tw H 565 rfl) (tw H 148 rfl) (w84 H) (tw H 149 rfl) (by decide) (rm23_157 H p1 p2 Ol7 (cl_ce G_1.1).2.1) e9 rfl rfl rfl (lenOf pd_5 rfl) rfl d73_172 (by decide) ?_
  rintro T10 v10 L10 X10 ⟨rfl, N10q, e10⟩
  have N10 := Fr.app N9 N10q
  show Go _ _ _ _ _ (mkF _ _ _ [.int p1, .int 1, .ref b7, .ref b7])
  refine G1 X10 K d73_175 rfl ?_
  refine G1 X10 K d73_176 rfl ?_
  refine G14 X10 K (W := 4) (tw H 566 rfl) (tw H 83 rfl) (w84 H) (tw H 85 rfl) (by decide) (rm14_158 H p1 p2 Ol7 (cl_ce G_1.1).1) e10 rfl rfl rfl (lenOf pd_5 rfl) rfl d73_177 (by decide) ?_
  rintro T11 v11 L11 X11 ⟨rfl, N11q, e11⟩
  have N11 := Fr.app N10 N11q
  show Go _ _ _ _ _ (mkF _ _ _ [.int p2, .int p1, .int 1, .ref b7, .ref b7])
  refine G1 X11 K d73_180 rfl ?_
  refine G7 X11 K d73_181 rfl rfl ?_
  refine G7 X11 K d73_183 rfl rfl ?_
  refine G0 X11 K d73_185 rfl rfl ?_
  refine G7 X11 K d73_186 rfl rfl ?_
  have f3 := A_5.keep Kp7 nw_a2
  refine G25 X11 K (W := 8) (tw H 567 rfl) (tw H 569 rfl) (selPriv (w474 H) (tw H 569 rfl) (tw H 568 rfl) (by decide)) (tw H 568 rfl) (w475 H) (tw H 570 rfl) (by decide) (rm74_163 H a1 a2 k5 Ol7 f3) e11 f1.1 rfl rfl rfl (lenOf pd_45 rfl) rfl d73_188 (by decide) ?_
  rintro T12 v12 L12 X12 ⟨bx1, kB1, rfl, N12q, Kc12, lz12_0, g1⟩
  have szbx1 := Nat.le_trans Kp7.1 lz12_0
  have gebx1 := Nat.le_trans Ol7.2.1 lz12_0
  have lkbx1 : b7 < bx1 := Nat.lt_of_lt_of_le O7.lt lz12_0
  have so2 := so1.cons lkbx1
  obtain ⟨N12, Ol12, Kp12⟩ := ivK N11 Ol7 Kp7 N12q Kc12 all0 all0
  show Go _ _ _ _ _ (mkF _ _ _ [.ref bx1, .null, .null, .int p3, .int p2, .int p1, .int 1, .ref b7, .ref b7])
  refine G7 X12 K d73_191 rfl rfl ?_
  have f4 := (O7.keep Kc12 nin0)
  refine G23 X12 K (W := 1) rfl (tw H 584 rfl) (tw H 585 rfl) (w564 H) (tw H 586 rfl) (by decide) (rm79_164 H b7 p1 p2 p3 bx1 Ol12 f4 ge7 Y_1) rfl rfl rfl rfl (lenOf pd_46 rfl) rfl d73_193 (by decide) ?_
  rintro T13 v13 L13 X13 ⟨rfl, N13q, Kc13, g2⟩
  obtain ⟨N13, Ol13, Kp13⟩ := ivK N12 Ol12 Kp12 N13q Kc13 (allS ge7 all0) (kaS (Or.inr sz7) all0)
  show Go _ _ _ _ _ (mkF _ _ _ [.ref b7])
  refine G26 X13 K (L' := #[vr a1, vi p1, vi p2, vi p3, vn, vn, vn, vr a2, vi ((p1 * 6) + p2), vi (vl p3), vr b7, un]) d73_196 rfl rfl ?_
  refine G0 X13 K d73_198 rfl rfl ?_
  have f5 := B_1.keep Kp13 nw_a1
  refine G2 X13 K (w482 H) Via.refl rfl f5.2.1 d73_199 ?_
  intro T14 X14 e14
  refine G7 X14 K d73_202 rfl rfl ?_
  have ne1 : a3 ≠ b7 := (Nat.ne_of_lt (Nat.lt_of_lt_of_le B_2.lt sz7))
  have f6 := ((f2.keep Kc12 nin0).keep Kc13 (ninS ne1 nin0))
  refine G20 X14 K (W := 0) (tw H 604 rfl) (tw H 194 rfl) (mvT K.z (tw H 195 rfl)) (tw H 196 rfl) (w60 H) (tw H 197 rfl) (tw H 198 rfl) (w199 H) (w3 H) (w62 H) (by decide) (rm10_166 H a3 b7 p1 p2 p3 bx1 Ol13 f6 ge_1 g2 (Ne.symm ne1)) e14 f6.1 rfl rfl rfl (lenOf pd_9 rfl) rfl d73_204 (by decide) ?_
  rintro T15 v15 L15 X15 ⟨bx2, kB2, rfl, N15q, Kc15, lz15_0, g3, g4, g5, g6⟩
  have szbx2 := Nat.le_trans Kp13.1 lz15_0
  have gebx2 := Nat.le_trans Ol13.2.1 lz15_0
  have f7 := (g1.keep Kc13 (so2.nin 0 [1] rfl rfl rfl))
  have lkbx2 : bx1 < bx2 := Nat.lt_of_lt_of_le f7.lt lz15_0
  have so3 := so2.cons lkbx2
  obtain ⟨N15, Ol15, Kp15⟩ := ivK N13 Ol13 Kp13 N15q Kc15 (allS ge_1 all0) (kaS (ow 4 rfl) all0)
  show Go _ _ _ _ _ (mkF _ _ _ [.int 1])
  refine G37 X15 K d73_209 rfl ?_
  refine G0 X15 K d73_210 rfl rfl ?_
  have f8 := B_1.keep Kp15 nw_a1
  refine G2 X15 K (w514 H) Via.refl rfl f8.2.2.2.2.2.2.1 d73_211 ?_
  intro T16 X16 e16
  refine G4 X16 K d73_214 rfl ?_
  refine G4 X16 K d73_216 rfl ?_
  have kb1 := Keep.cat (Keep.ofE E7) Kc12 [] [] [] rfl rfl
  have kb2 := Keep.cat Kc13 Kc15 [b7, a3] [0] [1] rfl rfl
  have kb3 := Keep.cat kb1 kb2 [b7, a3] [] [0, 1] rfl rfl
  have ne2 : a5 ≠ b7 := (Nat.ne_of_lt (Nat.lt_of_lt_of_le A_1.lt sz7))
  have f9 := (A_1.keep kb3 (ninS ne2 (ninS ne_1 nin0)))
  refine G49 X16 K (vs' := (u1.set ((p1 * 6) + p2).toNatClampNeg (.int (vl p3)))) e16 f9 (cl_ce G_1.1).2.2.1 (gs_v G_1) (vl_nar _) rfl d73_218 ?_
  intro T17 h17 X17 e17 W17 F17
  obtain ⟨N17, Ol17, Kp17⟩ := ivW N15 Ol15 Kp15 X17 W17 ge_2 (ow 0 rfl)
  refine G0 X17 K d73_219 rfl rfl ?_
  have f10 := B_1.keep Kp17 nw_a1
  refine G2 X17 K (tw H 517 rfl) Via.refl e17 f10.2.2.2.2.2.2.2.1 d73_220 ?_
  intro T18 X18 e18
  refine G4 X18 K d73_223 rfl ?_
  refine G7 X18 K d73_225 rfl rfl ?_
  have f11 := ((g2.keep Kc15 (ninS (Ne.symm ne1) nin0)).other W17 (Ne.symm ne2))
  refine G8 X18 K (W := 2) (tw H 606 rfl) (tw H 607 rfl) (nf_self K (tw H 609 rfl)) (tw H 609 rfl) (tw H 608 rfl) (w564 H) (tw H 610 rfl) (by decide) (rm80_167 H b7 p1 p2 p3 bx1 Ol17 f11) e18 f11.1 rfl rfl rfl (lenOf pd_23 rfl) rfl d73_227 (by decide) ?_
  rintro T19 v19 L19 X19 ⟨rfl, N19q, e19⟩
  have N19 := Fr.app N17 N19q
  show Go _ _ _ _ _ (mkF _ _ _ [.int 1, (.int ((p1 * 6) + p2)), .ref a6])
  have ne3 : a6 ≠ b7 := (Nat.ne_of_lt (Nat.lt_of_lt_of_le A_2.lt sz7))
  have f12 := ((A_2.keep kb3 (ninS ne3 (ninS ne_2 nin0))).other W17 ne_3)
  refine G39 X19 K (vs' := (u2.set ((p1 * 6) + p2).toNatClampNeg (.int 1))) e19 f12 (cl_ce G_1.1).2.2.1 (gs_s G_1) rfl d73_230 ?_
  intro T20 h20 X20 e20 W20 F20
  obtain ⟨N20, Ol20, Kp20⟩ := ivW N19 Ol17 Kp17 X20 W20 ge_3 (ow 1 rfl)
  rcases Y_1 with rfl | rfl
  · refine G0 X20 K d73_231 rfl rfl ?_
    refine G1 X20 K d73_232 rfl ?_
    refine G1 X20 K d73_233 rfl ?_
    refine G1 X20 K d73_234 rfl ?_
    have f13 := B_1.keep Kp20 nw_a1
    have f14 := B_3.keep Kp20 nw_a4
    have f15 := B_4.keep Kp20 nw_a12
    have ne4 : a8 ≠ b7 := (Nat.ne_of_lt (Nat.lt_of_lt_of_le A_4.lt sz7))
    have f16 := (((A_4.keep kb3 (ninS ne4 (ninS ne_4 nin0))).other W17 ne_5).other W20 ne_6)
    refine G25 X20 K (W := 0) (w611 H) (w613 H) (selPriv (w474 H) (w613 H) (w612 H) (by decide)) (w612 H) (w475 H) (w614 H) (by decide) (rm81_172 H a1 p1 p2 a3 a4 a5 a6 a7 a8 a9 a10 a11 a12 a13 a14 a15 u4 k4 Ol20 f13 f14 (cn1 G_1.1) f15 ge_4 f16 G_1.2.2.2.2.2.1 ge_5 ne_7) e20 f13.1 rfl rfl rfl (lenOf pd_48 rfl) rfl d73_235 (by decide) ?_
    rintro T21 v21 L21 X21 ⟨rfl, N21q, Kc21, g7⟩
    obtain ⟨N21, Ol21, Kp21⟩ := ivK N20 Ol20 Kp20 N21q Kc21 (allS ge_5 all0) (kaS (ow 3 rfl) all0)
    show Go _ _ _ _ _ (mkF _ _ _ [])
    refine G0 X21 K d73_238 rfl rfl ?_
    refine G1 X21 K d73_239 rfl ?_
    refine G1 X21 K d73_240 rfl ?_
    refine G1 X21 K d73_241 rfl ?_
    have f17 := B_1.keep Kp21 nw_a1
    have f18 := B_3.keep Kp21 nw_a4
    have f19 := B_4.keep Kp21 nw_a12
    refine G25 X21 K (W := 0) (w611 H) (w613 H) (selPriv (w474 H) (w613 H) (w612 H) (by decide)) (w612 H) (w475 H) (w614 H) (by decide) (rm81_175 H a1 p2 p1 a3 a4 a5 a6 a7 a8 a9 a10 a11 a12 a13 a14 a15 (u4.set ((p1 * 2) + 1).toNatClampNeg (.long (msk p2))) k4 Ol21 f17 f18 (cn0 G_1.1) f19 ge_4 g7 (li2 G_1.1 G_1.2.2.2.2.2.2) ge_5 ne_7) rfl f17.1 rfl rfl rfl (lenOf pd_48 rfl) rfl d73_242 (by decide) ?_
    rintro T22 v22 L22 X22 ⟨rfl, N22q, Kc22, g8⟩
    obtain ⟨N22, Ol22, Kp22⟩ := ivK N21 Ol21 Kp21 N22q Kc22 (allS ge_5 all0) (kaS (ow 3 rfl) all0)
    show Go _ _ _ _ _ (mkF _ _ _ [])
    refine G1 X22 K d73_245 rfl ?_
    refine G15 258 X22 K d73_246 (by decide) (by decide) (by decide) ?_
    refine G0 X22 K d73_258 rfl rfl ?_
    refine G1 X22 K d73_259 rfl ?_
    refine G1 X22 K d73_260 rfl ?_
    have f20 := B_1.keep Kp22 nw_a1
    have f21 := B_3.keep Kp22 nw_a4
    refine G25 X22 K (W := 0) (tw H 635 rfl) (tw H 637 rfl) (selPriv (w474 H) (tw H 637 rfl) (tw H 636 rfl) (by decide)) (tw H 636 rfl) (w475 H) (tw H 638 rfl) (by decide) (rm86_176 H a1 p1 p2 a3 a4 a5 a6 a7 a8 a9 a10 a11 a12 a13 Ol22 f20 f21 G_1.1) rfl f20.1 rfl rfl rfl (lenOf pd_49 rfl) rfl d73_261 (by decide) ?_
    rintro T23 v23 L23 X23 ⟨rfl, N23q, e23⟩
    have N23 := Fr.app N22 N23q
    show Go _ _ _ _ _ (mkF _ _ _ [])
    refine G17 X23 K d73_264 (by decide) (by decide) ?_
    rw [e23]
    have kb4 := Keep.cat (Keep.of_wr W17) (Keep.of_wr W20) [a5, a6] [0] [1] rfl rfl
    have kb5 := Keep.cat Kc21 Kc22 [a8] [0] [0] rfl rfl
    have kb6 := Keep.cat kb4 kb5 [a5, a6, a8] [0, 1] [2] rfl rfl
    have f22 := (g3.keep kb6 (ninS ne_10 (ninS ne_9 (ninS ne_8 nin0))))
    have f23 := (((F17.other W20 ne_11).keep Kc21 (ninS ne_12 nin0)).keep Kc22 (ninS ne_12 nin0))
    have f24 := ((F20.keep Kc21 (ninS ne_13 nin0)).keep Kc22 (ninS ne_13 nin0))
    have kb7 := Keep.cat kb3 kb6 [b7, a3, a5, a6, a8] [0, 1] [2, 3, 4] rfl rfl
    have ne5 : a7 ≠ b7 := (Nat.ne_of_lt (Nat.lt_of_lt_of_le A_3.lt sz7))
    have f25 := (A_3.keep kb7 (ninS ne5 (ninS ne_17 (ninS ne_16 (ninS ne_15 (ninS ne_14 nin0))))))
    have ne6 : a8 ≠ bx2 := (Nat.ne_of_lt (Nat.lt_of_lt_of_le A_4.lt szbx2))
    have ne7 : a6 ≠ bx2 := (Nat.ne_of_lt (Nat.lt_of_lt_of_le A_2.lt szbx2))
    have ne8 : a5 ≠ bx2 := (Nat.ne_of_lt (Nat.lt_of_lt_of_le A_1.lt szbx2))
    have f26 := (g4.keep kb6 (ninS (Ne.symm ne8) (ninS (Ne.symm ne7) (ninS (Ne.symm ne6) nin0))))
    have f27 := (g5.keep kb6)
    exact ⟨bx2, kB2, b7, u3, ((u4.set ((p1 * 2) + 1).toNatClampNeg (.long (msk p2))).set ((p2 * 2) + 0).toNatClampNeg (.long (msk p1))), of_refl _ _ _, of_set _ _ _ _ _, rfl, N23, Kp22, szbx2, f22, f23, f24, f25, g8, f26, f27, g6⟩
  · refine G0 X20 K d73_231 rfl rfl ?_
    refine G1 X20 K d73_232 rfl ?_
    refine G1 X20 K d73_233 rfl ?_
    refine G1 X20 K d73_234 rfl ?_
    have f28 := B_1.keep Kp20 nw_a1
    have f29 := B_3.keep Kp20 nw_a4
    have f30 := B_4.keep Kp20 nw_a12
    have ne9 : a7 ≠ b7 := (Nat.ne_of_lt (Nat.lt_of_lt_of_le A_3.lt sz7))
    have f31 := (((A_3.keep kb3 (ninS ne9 (ninS ne_17 nin0))).other W17 ne_16).other W20 ne_15)
    refine G25 X20 K (W := 0) (w611 H) (w613 H) (selPriv (w474 H) (w613 H) (w612 H) (by decide)) (w612 H) (w475 H) (w614 H) (by decide) (rm81_178 H a1 p1 p2 a3 a4 a5 a6 a7 a8 a9 a10 a11 a12 a13 a14 a15 u3 k3 Ol20 f28 f29 (cn1 G_1.1) f30 ge_4 f31 G_1.2.2.2.2.1.1 ge_6) e20 f28.1 rfl rfl rfl (lenOf pd_48 rfl) rfl d73_235 (by decide) ?_
    rintro T24 v24 L24 X24 ⟨rfl, N24q, Kc24, g9⟩
    obtain ⟨N24, Ol24, Kp24⟩ := ivK N20 Ol20 Kp20 N24q Kc24 (allS ge_6 all0) (kaS (ow 2 rfl) all0)
    show Go _ _ _ _ _ (mkF _ _ _ [])
    refine G0 X24 K d73_238 rfl rfl ?_
    refine G1 X24 K d73_239 rfl ?_
    refine G1 X24 K d73_240 rfl ?_
    refine G1 X24 K d73_241 rfl ?_
    have f32 := B_1.keep Kp24 nw_a1
    have f33 := B_3.keep Kp24 nw_a4
    have f34 := B_4.keep Kp24 nw_a12
    refine G25 X24 K (W := 0) (w611 H) (w613 H) (selPriv (w474 H) (w613 H) (w612 H) (by decide)) (w612 H) (w475 H) (w614 H) (by decide) (rm81_180 H a1 p2 p1 a3 a4 a5 a6 a7 a8 a9 a10 a11 a12 a13 a14 a15 (u3.set ((p1 * 2) + 1).toNatClampNeg (.int p2)) k3 Ol24 f32 f33 (cn0 G_1.1) f34 ge_4 g9 (li2 G_1.1 G_1.2.2.2.2.1.2) ge_6) rfl f32.1 rfl rfl rfl (lenOf pd_48 rfl) rfl d73_242 (by decide) ?_
    rintro T25 v25 L25 X25 ⟨rfl, N25q, Kc25, g10⟩
    obtain ⟨N25, Ol25, Kp25⟩ := ivK N24 Ol24 Kp24 N25q Kc25 (allS ge_6 all0) (kaS (ow 2 rfl) all0)
    show Go _ _ _ _ _ (mkF _ _ _ [])
    refine G1 X25 K d73_245 rfl ?_
    refine G11 X25 K d73_246 (by decide) ?_
    refine G0 X25 K d73_249 rfl rfl ?_
    refine G1 X25 K d73_250 rfl ?_
    refine G1 X25 K d73_251 rfl ?_
    have f35 := B_1.keep Kp25 nw_a1
    have f36 := B_3.keep Kp25 nw_a4
    refine G25 X25 K (W := 0) (tw H 639 rfl) (tw H 641 rfl) (selPriv (w474 H) (tw H 641 rfl) (tw H 640 rfl) (by decide)) (tw H 640 rfl) (w475 H) (tw H 642 rfl) (by decide) (rm87_181 H a1 p1 p2 a3 a4 a5 a6 a7 a8 a9 a10 a11 a12 a13 Ol25 f35 f36 G_1.1) rfl f35.1 rfl rfl rfl (lenOf pd_49 rfl) rfl d73_252 (by decide) ?_
    rintro T26 v26 L26 X26 ⟨rfl, N26q, e26⟩
    have N26 := Fr.app N25 N26q
    show Go _ _ _ _ _ (mkF _ _ _ [])
    refine G6 264 X26 K d73_255 (by decide) (by decide) ?_
    refine G17 X26 K d73_264 (by decide) (by decide) ?_
    rw [e26]
    have kb8 := Keep.cat (Keep.of_wr W17) (Keep.of_wr W20) [a5, a6] [0] [1] rfl rfl
    have kb9 := Keep.cat Kc24 Kc25 [a7] [0] [0] rfl rfl
    have kb10 := Keep.cat kb8 kb9 [a5, a6, a7] [0, 1] [2] rfl rfl
    have f37 := (g3.keep kb10 (ninS ne_10 (ninS ne_9 (ninS ne_18 nin0))))
    have f38 := (((F17.other W20 ne_11).keep Kc24 (ninS ne_19 nin0)).keep Kc25 (ninS ne_19 nin0))
    have f39 := ((F20.keep Kc24 (ninS ne_20 nin0)).keep Kc25 (ninS ne_20 nin0))
    have kb11 := Keep.cat kb3 kb10 [b7, a3, a5, a6, a7] [0, 1] [2, 3, 4] rfl rfl
    have ne10 : a8 ≠ b7 := (Nat.ne_of_lt (Nat.lt_of_lt_of_le A_4.lt sz7))
    have f40 := (A_4.keep kb11 (ninS ne10 (ninS ne_4 (ninS ne_5 (ninS ne_6 (ninS ne_21 nin0))))))
    have ne11 : a7 ≠ bx2 := (Nat.ne_of_lt (Nat.lt_of_lt_of_le A_3.lt szbx2))
    have ne12 : a6 ≠ bx2 := (Nat.ne_of_lt (Nat.lt_of_lt_of_le A_2.lt szbx2))
    have ne13 : a5 ≠ bx2 := (Nat.ne_of_lt (Nat.lt_of_lt_of_le A_1.lt szbx2))
    have f41 := (g4.keep kb10 (ninS (Ne.symm ne13) (ninS (Ne.symm ne12) (ninS (Ne.symm ne11) nin0))))
    have f42 := (g5.keep kb10)
    exact ⟨bx2, kB2, b7, ((u3.set ((p1 * 2) + 1).toNatClampNeg (.int p2)).set ((p2 * 2) + 0).toNatClampNeg (.int p1)), u4, of_set _ _ _ _ _, of_refl _ _ _, rfl, N26, Kp25, szbx2, f37, f38, f39, g10, f40, f41, f42, g6⟩
theorem rm72_183 (H : Hyp Z a0) (a1 : Addr) (p1 p2 p3 : Int32) (a2 a3 a4 a5 a6 a7 a8 : Addr) (u1 : List Value) (k1 : ClassId) (u2 : List Value) (k2 : ClassId) (u3 : List Value) (k3 : ClassId) (u4 : List Value) (k4 k5 : ClassId) (a9 a10 a11 a12 a13 a14 a15 : Addr) (Ol0 : Old Z (ζ Z) h0) (B_1 : Ω10 Z h0 a1 (.ref a3) (.ref a4) (.int 3) (.int 2) (.int 6) (.ref a5) (.ref a6) (.ref a7) (.ref a8) (.int 9) (.int 2147483647) (.int 2147483647)) (A_1 : Arv Z h0 a5 k1 .byte 36 u1 (.int 0)) (A_2 : Arv Z h0 a6 k2 .int 36 u2 (.int 0)) (A_3 : Arv Z h0 a7 k3 .int 12 u3 (.int 0)) (A_4 : Arv Z h0 a8 k4 .long 12 u4 (.long 0)) (G_1 : Gs u1 u2 u3 u4 p1 p2) (Y_1 : p3 = 0 ∨ p3 = 1) (B_2 : Ω0 Z h0 a3 (.int 0) (.ref (ad1 Z a0)) (.int 0)) (A_5 : Arv Z h0 a2 k5 .int 0 [] (.int 0)) (B_3 : Ω4 Z h0 a4 (.ref a9) (.ref a10) (.ref a11) (.ref a12) (.int 3) (.ref a13)) (B_4 : Ω6 Z h0 a12 (.ref a14) (.ref a15)) (ge_1 : (ζ Z) ≤ a3) (ne_1 : a5 ≠ a3) (ge_2 : (ζ Z) ≤ a5) (ne_2 : a6 ≠ a3) (ne_3 : a6 ≠ a5) (ge_3 : (ζ Z) ≤ a6) (ge_4 : (ζ Z) ≤ a15) (ne_4 : a8 ≠ a3) (ne_5 : a8 ≠ a5) (ne_6 : a8 ≠ a6) (ge_5 : (ζ Z) ≤ a8) (ne_7 : a1 ≠ a8) (ne_8 : a3 ≠ a8) (ne_9 : a3 ≠ a6) (ne_10 : a3 ≠ a5) (ne_11 : a5 ≠ a6) (ne_12 : a5 ≠ a8) (ne_13 : a6 ≠ a8) (ne_14 : a7 ≠ a8) (ne_15 : a7 ≠ a6) (ne_16 : a7 ≠ a5) (ne_17 : a7 ≠ a3) (ge_6 : (ζ Z) ≤ a7) (ne_18 : a3 ≠ a7) (ne_19 : a5 ≠ a7) (ne_20 : a6 ≠ a7) (ne_21 : a8 ≠ a7) (ne_22 : a1 ≠ a3) (ne_23 : a1 ≠ a7) (ne_24 : a1 ≠ a6) (ne_25 : a1 ≠ a5) (ne_26 : a12 ≠ a3) (ne_27 : a12 ≠ a8) (ne_28 : a12 ≠ a7) (ne_29 : a12 ≠ a6) (ne_30 : a12 ≠ a5) (ne_31 : a2 ≠ a3) (ne_32 : a2 ≠ a8) (ne_33 : a2 ≠ a7) (ne_34 : a2 ≠ a6) (ne_35 : a2 ≠ a5) (ne_36 : a4 ≠ a3) (ne_37 : a4 ≠ a8) (ne_38 : a4 ≠ a7) (ne_39 : a4 ≠ a6) (ne_40 : a4 ≠ a5) :
    Mt l Z M85 C37 7 none [] ⟨6, 3, 18, 125⟩ #[.ref a1, .int p1, .int p2, .int p3, .null, .null, .ref a2] h0 (fun v h L => (∃ (r1 : List Value), ∃ (r2 : List Value), ∃ (bx1 : Addr) (kB1 : ClassId) (bx2 : Addr), Of u3 r1 p1 p2 ∧ Of u4 r2 p1 p2 ∧ v = none ∧ Fr (ζ Z) L ∧ Keep h0 h [a5, a6, a7, a8, a3] ∧ h0.size ≤ bx1 ∧ Arv Z h a5 k1 .byte 36 (u1.set ((p1 * 6) + p2).toNatClampNeg (.int (vl p3))) (.int 0) ∧ Arv Z h a6 k2 .int 36 (u2.set ((p1 * 6) + p2).toNatClampNeg (.int 1)) (.int 0) ∧ Arv Z h a7 k3 .int 12 r1 (.int 0) ∧ Arv Z h a8 k4 .long 12 r2 (.long 0) ∧ Ω0 Z h a3 (.int 1) (.ref bx1) (.int 1) ∧ Arv Z h bx1 kB1 (.object Q3) 10 [.ref bx2, .null, .null, .null, .null, .null, .null, .null, .null, .null] .null ∧ Exa Z h bx1 Q7 ∧ Ovr Z kB1 Q3)) := by
  refine g_be (pf pn1) (ef_70 a1 p1 p2 p3 a2) fun T0 K X0 e0 => ?_
  refine G0 X0 K d72_0 rfl rfl ?_
  refine G1 X0 K d72_1 rfl ?_
  refine G1 X0 K d72_2 rfl ?_
  refine G1 X0 K d72_3 rfl ?_
  refine G7 X0 K d72_4 rfl rfl ?_
  refine G7 X0 K d72_6 rfl rfl ?_
  refine G28 X0 K d72_8 ?_
  refine G7 X0 K d72_9 rfl rfl ?_
  refine G25 X0 K (W := 0) (tw H 557 rfl) (tw H 559 rfl) (selPriv (w474 H) (tw H 559 rfl) (tw H 558 rfl) (by decide)) (tw H 558 rfl) (w475 H) (tw H 560 rfl) (by decide) (rm73_182 H a1 p1 p2 p3 a2 a3 a4 a5 a6 a7 a8 u1 k1 u2 k2 u3 k3 u4 k4 k5 a9 a10 a11 a12 a13 a14 a15 Ol0 B_1 A_1 A_2 A_3 A_4 G_1 Y_1 B_2 A_5 ge_1 ne_1 ge_2 ne_2 ne_3 ge_3 B_3 B_4 ge_4 ne_4 ne_5 ne_6 ge_5 ne_7 ne_8 ne_9 ne_10 ne_11 ne_12 ne_13 ne_14 ne_15 ne_16 ne_17 ge_6 ne_18 ne_19 ne_20 ne_21 ne_22 ne_23 ne_24 ne_25 ne_26 ne_27 ne_28 ne_29 ne_30 ne_31 ne_32 ne_33 ne_34 ne_35 ne_36 ne_37 ne_38 ne_39 ne_40) e0 B_1.1 rfl rfl rfl (lenOf pd_50 rfl) rfl d72_11 (by decide) ?_
  rintro T1 v1 L1 X1 ⟨bx1, kB1, bx2, r1, r2, hc1, hc2, rfl, N1q, Kc1, lz1_0, g1, g2, g3, g4, g5, g6, g7, g8⟩
  have szbx1 := Nat.le_trans (Keep.refl h0 [a5, a6, a7, a8, a3]).1 lz1_0
  have gebx1 := Nat.le_trans Ol0.2.1 lz1_0
  have so1 := Sd.one bx1
  obtain ⟨N1, Ol1, Kp1⟩ := ivK (Fr.nil _) Ol0 (Keep.refl h0 [a5, a6, a7, a8, a3]) N1q Kc1 (allS ge_2 (allS ge_3 (allS ge_6 (allS ge_5 (allS ge_1 all0))))) (kaS (ow 0 rfl) (kaS (ow 1 rfl) (kaS (ow 2 rfl) (kaS (ow 3 rfl) (kaS (ow 4 rfl) all0)))))
  show Go _ _ _ _ _ (mkF _ _ _ [])
  refine G17 X1 K d72_14 (by decide) (by decide) ?_
  exact ⟨r1, r2, bx1, kB1, bx2, hc1, hc2, rfl, N1, Kp1, szbx1, g2, g3, g4, g5, g1, g6, g7, g8⟩
theorem rm40_184 (H : Hyp Z a0) (a1 a2 : Addr) (Ol0 : Old Z (ζ Z) h0) (B_1 : Ω0 Z h0 a1 (.int 1) (.ref a2) (.int 1)) :
    Mt l Z M46 C70 1 (some .int) [] ⟨0, 0, 0, 0⟩ #[.ref a1] h0 (fun v h L => (v = some (.int 1) ∧ Fr (ζ Z) L ∧ h = h0)) := by
  refine g_be (pf pn12) (ef_0 a1) fun T0 K X0 e0 => ?_
  refine G0 X0 K d40_0 rfl rfl ?_
  refine G2 X0 K (w65 H) Via.refl e0 B_1.2.2.2 d40_1 ?_
  intro T1 X1 e1
  refine G18 X1 K d40_4 (by decide) (by decide) ?_
  exact ⟨rfl, (Fr.nil _), e1⟩
theorem rm79_185 (H : Hyp Z a0) (a1 : Addr) (p1 p2 p3 : Int32) (a2 : Addr) (Ol0 : Old Z (ζ Z) h0) (B_1 : Ω11 Z h0 a1 (.int 0) (.int 0) (.int 0) (.int 0) .null .null .null .null) (ge_1 : (ζ Z) ≤ a1) (Y_1 : p3 = 0 ∨ p3 = 1) :
    Mt l Z M92 C9 9 none [] ⟨2, 0, 0, 24⟩ #[.ref a1, .int 2, .int p1, .int p2, .int p3, .null, .null, .ref a2, .null] h0 (fun v h L => (v = none ∧ Fr (ζ Z) L ∧ Keep h0 h [a1] ∧ Ω11 Z h a1 (.int 2) (.int p1) (.int p2) (.int p3) .null .null (.ref a2) .null)) := by
  refine g_be (pf pn4) (ef_71 a1 p1 p2 p3 a2) fun T0 K X0 e0 => ?_
  refine G0 X0 K d79_0 rfl rfl ?_
  refine G23 X0 K (W := 0) rfl (tw H 587 rfl) (tw H 96 rfl) (tw H 98 rfl) (tw H 99 rfl) (by decide) (rm16_23 H a1 Ol0) e0 rfl rfl rfl (lenOf pd_0 rfl) rfl d79_1 (by decide) ?_
  rintro T1 v1 L1 X1 ⟨rfl, N1q, e1⟩
  have N1 := Fr.app (Fr.nil _) N1q
  show Go _ _ _ _ _ (mkF _ _ _ [])
  refine G0 X1 K d79_4 rfl rfl ?_
  refine G1 X1 K d79_5 rfl ?_
  refine G5 X1 K (tw H 588 rfl) Via.refl e1 B_1.2.1 B_1.1 (Or.inr ⟨(tw H 589 rfl), rfl, rfl⟩) (w563 H) (ty := .int) (by decide) rfl rfl d79_6 ?_
  intro T2 h2 X2 e2 W2 F2
  obtain ⟨N2, Ol2, Kp2⟩ := ivW N1 Ol0 (Keep.refl h0 [a1]) X2 W2 ge_1 (ow 0 rfl)
  have O2 := Ω11.s0 H B_1 W2
  refine G0 X2 K d79_9 rfl rfl ?_
  refine G1 X2 K d79_10 rfl ?_
  refine G5 X2 K (tw H 590 rfl) Via.refl e2 O2.2.2.1 O2.1 (Or.inr ⟨(tw H 591 rfl), rfl, rfl⟩) (w563 H) (ty := .int) (by decide) rfl rfl d79_11 ?_
  intro T3 h3 X3 e3 W3 F3
  obtain ⟨N3, Ol3, Kp3⟩ := ivW N2 Ol2 Kp2 X3 W3 ge_1 (ow 0 rfl)
  have O3 := Ω11.s1 H O2 W3
  refine G0 X3 K d79_14 rfl rfl ?_
  refine G1 X3 K d79_15 rfl ?_
  refine G5 X3 K (tw H 592 rfl) Via.refl e3 O3.2.2.2.1 O3.1 (Or.inr ⟨(tw H 593 rfl), rfl, rfl⟩) (w563 H) (ty := .int) (by decide) rfl rfl d79_16 ?_
  intro T4 h4 X4 e4 W4 F4
  obtain ⟨N4, Ol4, Kp4⟩ := ivW N3 Ol3 Kp3 X4 W4 ge_1 (ow 0 rfl)
  have O4 := Ω11.s2 H O3 W4
  refine G0 X4 K d79_19 rfl rfl ?_
  refine G4 X4 K d79_20 rfl ?_
  refine G76 X4 K (tw H 594 rfl) Via.refl e4 O4.2.2.2.2.1 O4.1 (Or.inr ⟨(tw H 595 rfl), rfl, rfl⟩) (w563 H) (ty := .boolean) (by decide) (fl_narrow Y_1) (fl_fits Y_1) d79_22 ?_
  intro T5 h5 X5 e5 W5 F5
  obtain ⟨N5, Ol5, Kp5⟩ := ivW N4 Ol4 Kp4 X5 W5 ge_1 (ow 0 rfl)
  have O5 := Ω11.s3 H O4 W5
  refine G0 X5 K d79_25 rfl rfl ?_
  refine G7 X5 K d79_26 rfl rfl ?_
  refine G5 X5 K (tw H 596 rfl) Via.refl e5 O5.2.2.2.2.2.1 O5.1 (Or.inr ⟨(tw H 597 rfl), rfl, rfl⟩) (w563 H) (ty := (.object Q36)) (by decide) rfl rfl d79_28 ?_
  intro T6 h6 X6 e6 W6 F6
  obtain ⟨N6, Ol6, Kp6⟩ := ivW N5 Ol5 Kp5 X6 W6 ge_1 (ow 0 rfl)
  have O6 := Ω11.s4 H O5 W6
  refine G0 X6 K d79_31 rfl rfl ?_
  refine G7 X6 K d79_32 rfl rfl ?_
  refine G5 X6 K (tw H 598 rfl) Via.refl e6 O6.2.2.2.2.2.2.1 O6.1 (Or.inr ⟨(tw H 599 rfl), rfl, rfl⟩) (w563 H) (ty := (.object Q38)) (by decide) rfl rfl d79_34 ?_
  intro T7 h7 X7 e7 W7 F7
  obtain ⟨N7, Ol7, Kp7⟩ := ivW N6 Ol6 Kp6 X7 W7 ge_1 (ow 0 rfl)
  have O7 := Ω11.s5 H O6 W7
  refine G0 X7 K d79_37 rfl rfl ?_
  refine G7 X7 K d79_38 rfl rfl ?_
  refine G5 X7 K (tw H 600 rfl) Via.refl e7 O7.2.2.2.2.2.2.2.1 O7.1 (Or.inr ⟨(tw H 601 rfl), rfl, rfl⟩) (w563 H) (ty := (.array .int)) (by decide) rfl rfl d79_40 ?_
  intro T8 h8 X8 e8 W8 F8
  obtain ⟨N8, Ol8, Kp8⟩ := ivW N7 Ol7 Kp7 X8 W8 ge_1 (ow 0 rfl)
  have O8 := Ω11.s6 H O7 W8
  refine G0 X8 K d79_43 rfl rfl ?_
  refine G7 X8 K d79_44 rfl rfl ?_
  refine G5 X8 K (tw H 602 rfl) Via.refl e8 O8.2.2.2.2.2.2.2.2 O8.1 (Or.inr ⟨(tw H 603 rfl), rfl, rfl⟩) (w563 H) (ty := (.object Q37)) (by decide) rfl rfl d79_46 ?_
  intro T9 h9 X9 e9 W9 F9
  obtain ⟨N9, Ol9, Kp9⟩ := ivW N8 Ol8 Kp8 X9 W9 ge_1 (ow 0 rfl)
  have O9 := Ω11.s7 H O8 W9
  refine G17 X9 K d79_49 (by decide) (by decide) ?_
  have Kp : Keep h0 T9.heap [a1] := by rw [e9]; exact Kp9
  exact ⟨rfl, N9, Kp, (by rw [e9]; exact O9)⟩
theorem rm11_186 (H : Hyp Z a0) (a1 a2 a3 a4 : Addr) (k1 : ClassId) (p1 p2 p3 : Int32) (a5 : Addr) (Ol0 : Old Z (ζ Z) h0) (A_1 : Arv Z h0 a3 k1 (.object Q3) 10 [.ref a4, .null, .null, .null, .null, .null, .null, .null, .null, .null] .null) (O_1 : Ovr Z k1 Q3) (B_1 : Ω11 Z h0 a2 (.int 2) (.int p1) (.int p2) (.int p3) .null .null (.ref a5) .null) (ge_1 : (ζ Z) ≤ a3) (B_2 : Ω0 Z h0 a1 (.int 2) (.ref a3) (.int 1)) (ne_1 : a1 ≠ a3) (ge_2 : (ζ Z) ≤ a1) (ne_2 : a3 ≠ a1) :
    Mt l Z M10 C15 4 none [] ⟨0, 0, 0, 0⟩ #[.ref a1, .ref a2, .ref a3, .int 1] h0 (fun v h L => (v = none ∧ Fr (ζ Z) L ∧ Keep h0 h [a3, a1] ∧ Arv Z h a3 k1 (.object Q3) 10 [.ref a4, .ref a2, .null, .null, .null, .null, .null, .null, .null, .null] .null ∧ Ω0 Z h a1 (.int 2) (.ref a3) (.int 2))) := by
  refine g_be (pf pn12) (ef_8 a1 a2 a3) fun T0 K X0 e0 => ?_
  refine G1 X0 K d11_0 rfl ?_
  refine G0 X0 K d11_1 rfl rfl ?_
  refine G21 X0 K e0 A_1 d11_2 ?_
  refine G19 11 X0 K d11_3 (by decide) (by decide) (by decide) ?_
  refine G0 X0 K d11_11 rfl rfl ?_
  refine G1 X0 K d11_12 rfl ?_
  refine G0 X0 K d11_13 rfl rfl ?_
  refine G32 X0 K (vs' := [.ref a4, .ref a2, .null, .null, .null, .null, .null, .null, .null, .null]) e0 A_1 (Or.inr ⟨_, rfl, O_1, (Ins.of_exa B_1.1 (tw H 605 rfl))⟩) (by decide) (Nat.le_of_ble_eq_true rfl) rfl d11_14 ?_
  intro T1 h1 X1 e1 W1 F1
  obtain ⟨N1, Ol1, Kp1⟩ := ivW (Fr.nil _) Ol0 (Keep.refl h0 [a3, a1]) X1 W1 ge_1 (ow 0 rfl)
  refine G0 X1 K d11_15 rfl rfl ?_
  refine G1 X1 K d11_16 rfl ?_
  refine G3 X1 K (v := 1) d11_17 (by decide) ?_
  refine G16 X1 K d11_18 (z := 2) (by decide) ?_
  have f1 := (B_2.other W1 ne_1)
  refine G5 X1 K (w65 H) Via.refl e1 f1.2.2.2 f1.1 (Or.inl (w66 H)) (w2 H) (ty := .int) (by decide) rfl rfl d11_19 ?_
  intro T2 h2 X2 e2 W2 F2
  obtain ⟨N2, Ol2, Kp2⟩ := ivW N1 Ol1 Kp1 X2 W2 ge_2 (ow 1 rfl)
  have O2 := Ω0.s2 H f1 W2
  refine G17 X2 K d11_22 (by decide) (by decide) ?_
  have Kp : Keep h0 T2.heap [a3, a1] := by rw [e2]; exact Kp2
  have f2 := (F1.other W2 ne_2)
  exact ⟨rfl, N2, Kp, (by rw [e2]; exact f2), (by rw [e2]; exact O2)⟩
theorem rm10_187 (H : Hyp Z a0) (a1 a2 a3 a4 : Addr) (k1 : ClassId) (p1 p2 p3 : Int32) (a5 : Addr) (Ol0 : Old Z (ζ Z) h0) (B_1 : Ω0 Z h0 a1 (.int 1) (.ref a3) (.int 1)) (ge_1 : (ζ Z) ≤ a1) (A_1 : Arv Z h0 a3 k1 (.object Q3) 10 [.ref a4, .null, .null, .null, .null, .null, .null, .null, .null, .null] .null) (B_2 : Ω11 Z h0 a2 (.int 2) (.int p1) (.int p2) (.int p3) .null .null (.ref a5) .null) (ne_1 : a3 ≠ a1) (O_1 : Ovr Z k1 Q3) (ge_2 : (ζ Z) ≤ a3) (ne_2 : a1 ≠ a3) (ne_3 : a2 ≠ a3) (ne_4 : a2 ≠ a1) :
    Mt l Z M9 C16 2 (some .boolean) [] ⟨1, 0, 0, 15⟩ #[.ref a1, .ref a2] h0 (fun v h L => (v = some (.int 1) ∧ Fr (ζ Z) L ∧ Keep h0 h [a1, a3] ∧ Ω0 Z h a1 (.int 2) (.ref a3) (.int 2) ∧ Arv Z h a3 k1 (.object Q3) 10 [.ref a4, .ref a2, .null, .null, .null, .null, .null, .null, .null, .null] .null)) := by
  refine g_be (pf pn12) (ef_6 a1 a2) fun T0 K X0 e0 => ?_
  have nw_a2 : a2 ∉ [a1, a3] := (ninS ne_4 (ninS ne_3 nin0))
  refine G0 X0 K d10_0 rfl rfl ?_
  refine G9 X0 K d10_1 rfl ?_
  refine G2 X0 K (w63 H) (Via.of (w64 H)) e0 B_1.2.1 d10_2 ?_
  intro T1 X1 e1
  refine G3 X1 K (v := 1) d10_5 (by decide) ?_
  refine G16 X1 K d10_6 (z := 2) (by decide) ?_
  refine G5 X1 K (w63 H) (Via.of (w64 H)) e1 B_1.2.1 B_1.1 (Or.inl (w23 H)) (w2 H) (ty := .int) (by decide) rfl rfl d10_7 ?_
  intro T2 h2 X2 e2 W2 F2
  obtain ⟨N2, Ol2, Kp2⟩ := ivW (Fr.nil _) Ol0 (Keep.refl h0 [a1, a3]) X2 W2 ge_1 (ow 0 rfl)
  have O2 := Ω0.s0 H B_1 W2
  refine G0 X2 K d10_10 rfl rfl ?_
  refine G0 X2 K d10_11 rfl rfl ?_
  refine G0 X2 K d10_12 rfl rfl ?_
  refine G2 X2 K (w25 H) Via.refl e2 O2.2.2.1 d10_13 ?_
  intro T3 X3 e3
  refine G0 X3 K d10_16 rfl rfl ?_
  refine G2 X3 K (w65 H) Via.refl e3 O2.2.2.2 d10_17 ?_
  intro T4 X4 e4
  have f1 := (A_1.other W2 ne_1)
  have f2 := B_2.keep Kp2 nw_a2
  refine G25 X4 K (W := 0) (w67 H) (w69 H) (w70 H) (w68 H) (w3 H) (w71 H) (by decide) (rm11_186 H a1 a2 a3 a4 k1 p1 p2 p3 a5 Ol2 f1 O_1 f2 ge_2 O2 ne_2 ge_1 ne_1) e4 O2.1 rfl rfl rfl (lenOf pd_8 rfl) rfl d10_20 (by decide) ?_
  rintro T5 v5 L5 X5 ⟨rfl, N5q, Kc5, g1, g2⟩
  obtain ⟨N5, Ol5, Kp5⟩ := ivK N2 Ol2 Kp2 N5q Kc5 (allS ge_2 (allS ge_1 all0)) (kaS (ow 1 rfl) (kaS (ow 0 rfl) all0))
  show Go _ _ _ _ _ (mkF _ _ _ [])
  refine G3 X5 K (v := 1) d10_23 (by decide) ?_
  refine G31 X5 K (by simp) (z' := 1) (by decide) d10_24 (by decide) (by decide) ?_
  exact ⟨rfl, N5, Kp5, g2, g1⟩
theorem rm80_188 (H : Hyp Z a0) (a1 : Addr) (p1 p2 p3 : Int32) (a2 : Addr) (Ol0 : Old Z (ζ Z) h0) (B_1 : Ω11 Z h0 a1 (.int 2) (.int p1) (.int p2) (.int p3) .null .null (.ref a2) .null) :
    Mt l Z M93 C75 1 (some .int) [] ⟨0, 0, 0, 0⟩ #[.ref a1] h0 (fun v h L => (v = some (.int 2) ∧ Fr (ζ Z) L ∧ h = h0)) := by
  refine g_be (pf pn4) (ef_0 a1) fun T0 K X0 e0 => ?_
  refine G0 X0 K d80_0 rfl rfl ?_
  refine G2 X0 K (tw H 588 rfl) Via.refl e0 B_1.2.1 d80_1 ?_
  intro T1 X1 e1
  refine G18 X1 K d80_4 (by decide) (by decide) ?_
  exact ⟨rfl, (Fr.nil _), e1⟩
theorem rm73_189 (H : Hyp Z a0) (a1 : Addr) (p1 p2 p3 : Int32) (a2 a3 a4 a5 a6 a7 a8 : Addr) (u1 : List Value) (k1 : ClassId) (u2 : List Value) (k2 : ClassId) (u3 : List Value) (k3 : ClassId) (u4 : List Value) (k4 : ClassId) (a9 : Addr) (k5 : ClassId) (a10 : Addr) (k6 : ClassId) (a11 a12 a13 a14 a15 a16 a17 : Addr) (Ol0 : Old Z (ζ Z) h0) (B_1 : Ω10 Z h0 a1 (.ref a3) (.ref a4) (.int 3) (.int 2) (.int 6) (.ref a5) (.ref a6) (.ref a7) (.ref a8) (.int 9) (.int 2147483647) (.int 2147483647)) (A_1 : Arv Z h0 a5 k1 .byte 36 u1 (.int 0)) (A_2 : Arv Z h0 a6 k2 .int 36 u2 (.int 0)) (A_3 : Arv Z h0 a7 k3 .int 12 u3 (.int 0)) (A_4 : Arv Z h0 a8 k4 .long 12 u4 (.long 0)) (G_1 : Gs u1 u2 u3 u4 p1 p2) (Y_1 : p3 = 0 ∨ p3 = 1) (B_2 : Ω0 Z h0 a3 (.int 1) (.ref a9) (.int 1)) (A_5 : Arv Z h0 a2 k5 .int 0 [] (.int 0)) (A_6 : Arv Z h0 a9 k6 (.object Q3) 10 [.ref a10, .null, .null, .null, .null, .null, .null, .null, .null, .null] .null) (ge_1 : (ζ Z) ≤ a3) (ne_1 : a9 ≠ a3) (O_1 : Ovr Z k6 Q3) (ge_2 : (ζ Z) ≤ a9) (ne_2 : a3 ≠ a9) (ne_3 : a5 ≠ a9) (ne_4 : a5 ≠ a3) (ge_3 : (ζ Z) ≤ a5) (ne_5 : a6 ≠ a9) (ne_6 : a6 ≠ a3) (ne_7 : a6 ≠ a5) (ge_4 : (ζ Z) ≤ a6) (B_3 : Ω4 Z h0 a4 (.ref a11) (.ref a12) (.ref a13) (.ref a14) (.int 3) (.ref a15)) (B_4 : Ω6 Z h0 a14 (.ref a16) (.ref a17)) (ge_5 : (ζ Z) ≤ a17) (ne_8 : a8 ≠ a9) (ne_9 : a8 ≠ a3) (ne_10 : a8 ≠ a5) (ne_11 : a8 ≠ a6) (ge_6 : (ζ Z) ≤ a8) (ne_12 : a1 ≠ a8) (ne_13 : a5 ≠ a6) (ne_14 : a5 ≠ a8) (ne_15 : a6 ≠ a8) (ne_16 : a7 ≠ a9) (ne_17 : a7 ≠ a3) (ne_18 : a7 ≠ a5) (ne_19 : a7 ≠ a6) (ge_7 : (ζ Z) ≤ a7) (ne_20 : a5 ≠ a7) (ne_21 : a6 ≠ a7) (ne_22 : a1 ≠ a9) (ne_23 : a1 ≠ a3) (ne_24 : a1 ≠ a7) (ne_25 : a1 ≠ a6) (ne_26 : a1 ≠ a5) (ne_27 : a14 ≠ a9) (ne_28 : a14 ≠ a3) (ne_29 : a14 ≠ a8) (ne_30 : a14 ≠ a7) (ne_31 : a14 ≠ a6) (ne_32 : a14 ≠ a5) (ne_33 : a2 ≠ a9) (ne_34 : a2 ≠ a3) (ne_35 : a2 ≠ a8) (ne_36 : a2 ≠ a7) (ne_37 : a2 ≠ a6) (ne_38 : a2 ≠ a5) (ne_39 : a4 ≠ a9) (ne_40 : a4 ≠ a3) (ne_41 : a4 ≠ a8) (ne_42 : a4 ≠ a7) (ne_43 : a4 ≠ a6) (ne_44 : a4 ≠ a5) :
    Mt l Z M86 C0 12 none [] ⟨5, 2, 8, 102⟩ #[.ref a1, .int p1, .int p2, .int p3, .null, .null, .null, .ref a2] h0 (fun v h L => (v = none ∧ Fr (ζ Z) L ∧ Keep h0 h [a5, a6, a7, a8, a3, a9] ∧ Arv Z h a5 k1 .byte 36 (u1.set ((p1 * 6) + p2).toNatClampNeg (.int (vl p3))) (.int 0) ∧ Arv Z h a6 k2 .int 36 (u2.set ((p1 * 6) + p2).toNatClampNeg (.int 2)) (.int 0))) := by
  refine g_be (pf pn1) (ef_69 a1 p1 p2 p3 a2) fun T0 K X0 e0 => ?_
  have nw_a1 : a1 ∉ [a5, a6, a7, a8, a3, a9] := (ninS ne_26 (ninS ne_25 (ninS ne_24 (ninS ne_12 (ninS ne_23 (ninS ne_22 nin0))))))
  have nw_a14 : a14 ∉ [a5, a6, a7, a8, a3, a9] := (ninS ne_32 (ninS ne_31 (ninS ne_30 (ninS ne_29 (ninS ne_28 (ninS ne_27 nin0))))))
  have nw_a2 : a2 ∉ [a5, a6, a7, a8, a3, a9] := (ninS ne_38 (ninS ne_37 (ninS ne_36 (ninS ne_35 (ninS ne_34 (ninS ne_33 nin0))))))
  have nw_a4 : a4 ∉ [a5, a6, a7, a8, a3, a9] := (ninS ne_44 (ninS ne_43 (ninS ne_42 (ninS ne_41 (ninS ne_40 (ninS ne_39 nin0))))))
  refine G0 X0 K d73_0 rfl rfl ?_
  refine G1 X0 K d73_1 rfl ?_
  refine G1 X0 K d73_2 rfl ?_
  refine G8 X0 K (W := 0) (tw H 547 rfl) (tw H 548 rfl) (nf_self K (w550 H)) (w550 H) (tw H 549 rfl) (w475 H) (tw H 551 rfl) (by decide) (rm71_152 H a1 p1 p2 a3 a4 a5 a6 a7 a8 Ol0 (cl_ce G_1.1).1 B_1) e0 B_1.1 rfl rfl rfl (lenOf pd_5 rfl) rfl d73_3 (by decide) ?_
  rintro T1 v1 L1 X1 ⟨rfl, N1q, e1⟩
  have N1 := Fr.app (Fr.nil _) N1q
  show Go _ _ _ _ _ (mkF _ _ _ [(.int ((p1 * 6) + p2))])
  refine G12 X1 K (L' := #[vr a1, vi p1, vi p2, vi p3, vn, vn, vn, vr a2, vi ((p1 * 6) + p2), un, un, un]) d73_6 rfl ?_
  refine G1 X1 K d73_8 rfl ?_
  refine G44 X1 K (q := 17) (v := (vl p3)) d73_9 d73_12 d73_13 d73_16 (u := 1) (w := 2) (by decide) (by decide) rfl rfl ?_
  refine G12 X1 K (L' := #[vr a1, vi p1, vi p2, vi p3, vn, vn, vn, vr a2, vi ((p1 * 6) + p2), vi (vl p3), un, un]) d73_17 rfl ?_
  refine G0 X1 K d73_19 rfl rfl ?_
  refine G2 X1 K (w514 H) Via.refl e1 B_1.2.2.2.2.2.2.1 d73_20 ?_
  intro T2 X2 e2
  refine G4 X2 K d73_23 rfl ?_
  refine G42 X2 K (v := (.int 0)) e2 A_1 (cl_ce G_1.1).2.2.1 G_1.2.2.2.1 d73_25 ?_
  refine G4 X2 K d73_26 rfl ?_
  refine G19 32 X2 K d73_28 (feq (vl_ne p3)).2 (by decide) (by decide) ?_
  refine G0 X2 K d73_32 rfl rfl ?_
  refine G2 X2 K (w514 H) Via.refl e2 B_1.2.2.2.2.2.2.1 d73_33 ?_
  intro T3 X3 e3
  refine G4 X3 K d73_36 rfl ?_
  refine G42 X3 K (v := (.int 0)) e3 A_1 (cl_ce G_1.1).2.2.1 G_1.2.2.2.1 d73_38 ?_
  refine G15 131 X3 K d73_39 (by decide) (by decide) (by decide) ?_
  refine G0 X3 K d73_131 rfl rfl ?_
  refine G2 X3 K (w482 H) Via.refl e3 B_1.2.1 d73_132 ?_
  intro T4 X4 e4
  refine G20 X4 K (W := 0) (tw H 561 rfl) (w281 H) (mvT K.z (w282 H)) (tw H 291 rfl) (tw H 292 rfl) (tw H 293 rfl) (tw H 294 rfl) (w199 H) (w3 H) (tw H 295 rfl) (by decide) (rm40_184 H a3 a9 Ol0 B_2) e4 B_2.1 rfl rfl rfl (lenOf pd_23 rfl) rfl d73_135 (by decide) ?_
  rintro T5 v5 L5 X5 ⟨rfl, N5q, e5⟩
  have N5 := Fr.app N1 N5q
  show Go _ _ _ _ _ (mkF _ _ _ [.int 1])
  refine G0 X5 K d73_140 rfl rfl ?_
  refine G2 X5 K (tw H 540 rfl) Via.refl e5 B_1.2.2.2.2.2.2.2.2.2.2.2.2 d73_141 ?_
  intro T6 X6 e6
  refine G19 155 X6 K d73_144 (by decide) (by decide) (by decide) ?_
  refine G27 X6 K (tw H 562 rfl) (w563 H) (w564 H) e6 d73_155 (by decide) (by decide) ?_
  intro T7 h7 b7 X7 e7 E7 z7 A7 D7
  obtain ⟨sz7, ge7, Ol7, Kp7⟩ := ivE Ol0 (Keep.refl h0 [a5, a6, a7, a8, a3, a9]) E7 z7
  have so1 := Sd.one b7
  have O7 := Ω11.new H A7 D7
  refine G9 X7 K d73_158 rfl ?_
  refine G0 X7 K d73_159 rfl rfl ?_
  have f1 := B_1.keep Kp7 nw_a1
  refine G2 X7 K (w482 H) Via.refl e7 f1.2.1 d73_160 ?_
  intro T8 X8 e8
  have f2 := (B_2.ext E7)
  refine G20 X8 K (W := 2) (tw H 561 rfl) (w281 H) (mvT K.z (w282 H)) (tw H 291 rfl) (tw H 292 rfl) (tw H 293 rfl) (tw H 294 rfl) (w199 H) (w3 H) (tw H 295 rfl) (by decide) (rm40_184 H a3 a9 Ol7 f2) e8 f2.1 rfl rfl rfl (lenOf pd_23 rfl) rfl d73_163 (by decide) ?_
  rintro T9 v9 L9 X9 ⟨rfl, N9q, e9⟩
  have N9 := Fr.app N5 N9q
  show Go _ _ _ _ _ (mkF _ _ _ [.int 1, .ref b7, .ref b7])
  refine G3 X9 K (v := 1) d73_168 (by decide) ?_
  refine G16 X9 K d73_169 (z := 2) (by decide) ?_
  refine G1 X9 K d73_170 rfl ?_
  refine G1 X9 K d73_171 rfl ?_
  refine G14 X9 K (W := 3) (tw H 565 rfl) (tw H 148 rfl) (w84 H) (tw H 149 rfl) (by decide) (rm23_157 H p1 p2 Ol7 (cl_ce G_1.1).2.1) e9 rfl rfl rfl (lenOf pd_5 rfl) rfl d73_172 (by decide) ?_
  rintro T10 v10 L10 X10 ⟨rfl, N10q, e10⟩
  have N10 := Fr.app N9 N10q
  show Go _ _ _ _ _ (mkF _ _ _ [.int p1, .int 2, .ref b7, .ref b7])
  refine G1 X10 K d73_175 rfl ?_
  refine G1 X10 K d73_176 rfl ?_
  refine G14 X10 K (W := 4) (tw H 566 rfl) (tw H 83 rfl) (w84 H) (tw H 85 rfl) (by decide) (rm14_158 H p1 p2 Ol7 (cl_ce G_1.1).1) e10 rfl rfl rfl (lenOf pd_5 rfl) rfl d73_177 (by decide) ?_
  rintro T11 v11 L11 X11 ⟨rfl, N11q, e11⟩
  have N11 := Fr.app N10 N11q
  show Go _ _ _ _ _ (mkF _ _ _ [.int p2, .int p1, .int 2, .ref b7, .ref b7])
  refine G1 X11 K d73_180 rfl ?_
  refine G7 X11 K d73_181 rfl rfl ?_
  refine G7 X11 K d73_183 rfl rfl ?_
  refine G0 X11 K d73_185 rfl rfl ?_
  refine G7 X11 K d73_186 rfl rfl ?_
  have f3 := A_5.keep Kp7 nw_a2
  refine G25 X11 K (W := 8) (tw H 567 rfl) (tw H 569 rfl) (selPriv (w474 H) (tw H 569 rfl) (tw H 568 rfl) (by decide)) (tw H 568 rfl) (w475 H) (tw H 570 rfl) (by decide) (rm74_163 H a1 a2 k5 Ol7 f3) e11 f1.1 rfl rfl rfl (lenOf pd_45 rfl) rfl d73_188 (by decide) ?_
  rintro T12 v12 L12 X12 ⟨bx1, kB1, rfl, N12q, Kc12, lz12_0, g1⟩
  have szbx1 := Nat.le_trans Kp7.1 lz12_0
  have gebx1 := Nat.le_trans Ol7.2.1 lz12_0
  have lkbx1 : b7 < bx1 := Nat.lt_of_lt_of_le O7.lt lz12_0
  have so2 := so1.cons lkbx1
  obtain ⟨N12, Ol12, Kp12⟩ := ivK N11 Ol7 Kp7 N12q Kc12 all0 all0
  show Go _ _ _ _ _ (mkF _ _ _ [.ref bx1, .null, .null, .int p3, .int p2, .int p1, .int 2, .ref b7, .ref b7])
  refine G7 X12 K d73_191 rfl rfl ?_
  have f4 := (O7.keep Kc12 nin0)
  refine G23 X12 K (W := 1) rfl (tw H 584 rfl) (tw H 585 rfl) (w564 H) (tw H 586 rfl) (by decide) (rm79_185 H b7 p1 p2 p3 bx1 Ol12 f4 ge7 Y_1) rfl rfl rfl rfl (lenOf pd_46 rfl) rfl d73_193 (by decide) ?_
  rintro T13 v13 L13 X13 ⟨rfl, N13q, Kc13, g2⟩
  obtain ⟨N13, Ol13, Kp13⟩ := ivK N12 Ol12 Kp12 N13q Kc13 (allS ge7 all0) (kaS (Or.inr sz7) all0)
  show Go _ _ _ _ _ (mkF _ _ _ [.ref b7])
  refine G26 X13 K (L' := #[vr a1, vi p1, vi p2, vi p3, vn, vn, vn, vr a2, vi ((p1 * 6) + p2), vi (vl p3), vr b7, un]) d73_196 rfl rfl ?_
  refine G0 X13 K d73_198 rfl rfl ?_
  have f5 := B_1.keep Kp13 nw_a1
  refine G2 X13 K (w482 H) Via.refl rfl f5.2.1 d73_199 ?_
  intro T14 X14 e14
  refine G7 X14 K d73_202 rfl rfl ?_
  have ne1 : a3 ≠ b7 := (Nat.ne_of_lt (Nat.lt_of_lt_of_le B_2.lt sz7))
  have f6 := ((f2.keep Kc12 nin0).keep Kc13 (ninS ne1 nin0))
  have ne2 : a9 ≠ b7 := (Nat.ne_of_lt (Nat.lt_of_lt_of_le A_6.lt sz7))
  have f7 := (((A_6.ext E7).keep Kc12 nin0).keep Kc13 (ninS ne2 nin0))
  refine G20 X14 K (W := 0) (tw H 604 rfl) (tw H 194 rfl) (mvT K.z (tw H 195 rfl)) (tw H 196 rfl) (w60 H) (tw H 197 rfl) (tw H 198 rfl) (w199 H) (w3 H) (w62 H) (by decide) (rm10_187 H a3 b7 a9 a10 k6 p1 p2 p3 bx1 Ol13 f6 ge_1 f7 g2 ne_1 O_1 ge_2 ne_2 (Ne.symm ne2) (Ne.symm ne1)) e14 f6.1 rfl rfl rfl (lenOf pd_9 rfl) rfl d73_204 (by decide) ?_
  rintro T15 v15 L15 X15 ⟨rfl, N15q, Kc15, g3, g4⟩
  obtain ⟨N15, Ol15, Kp15⟩ := ivK N13 Ol13 Kp13 N15q Kc15 (allS ge_1 (allS ge_2 all0)) (kaS (ow 4 rfl) (kaS (ow 5 rfl) all0))
  show Go _ _ _ _ _ (mkF _ _ _ [.int 1])
  refine G37 X15 K d73_209 rfl ?_
  refine G0 X15 K d73_210 rfl rfl ?_
  have f8 := B_1.keep Kp15 nw_a1
  refine G2 X15 K (w514 H) Via.refl rfl f8.2.2.2.2.2.2.1 d73_211 ?_
  intro T16 X16 e16
  refine G4 X16 K d73_214 rfl ?_
  refine G4 X16 K d73_216 rfl ?_
  have kb1 := Keep.cat (Keep.ofE E7) Kc12 [] [] [] rfl rfl
  have kb2 := Keep.cat Kc13 Kc15 [b7, a3, a9] [0] [1, 2] rfl rfl
  have kb3 := Keep.cat kb1 kb2 [b7, a3, a9] [] [0, 1, 2] rfl rfl
  have ne3 : a5 ≠ b7 := (Nat.ne_of_lt (Nat.lt_of_lt_of_le A_1.lt sz7))
  have f9 := (A_1.keep kb3 (ninS ne3 (ninS ne_4 (ninS ne_3 nin0))))
  refine G49 X16 K (vs' := (u1.set ((p1 * 6) + p2).toNatClampNeg (.int (vl p3)))) e16 f9 (cl_ce G_1.1).2.2.1 (gs_v G_1) (vl_nar _) rfl d73_218 ?_
  intro T17 h17 X17 e17 W17 F17
  obtain ⟨N17, Ol17, Kp17⟩ := ivW N15 Ol15 Kp15 X17 W17 ge_3 (ow 0 rfl)
  refine G0 X17 K d73_219 rfl rfl ?_
  have f10 := B_1.keep Kp17 nw_a1
  refine G2 X17 K (tw H 517 rfl) Via.refl e17 f10.2.2.2.2.2.2.2.1 d73_220 ?_
  intro T18 X18 e18
  refine G4 X18 K d73_223 rfl ?_
  refine G7 X18 K d73_225 rfl rfl ?_
  have f11 := ((g2.keep Kc15 (ninS (Ne.symm ne1) (ninS (Ne.symm ne2) nin0))).other W17 (Ne.symm ne3))
  refine G8 X18 K (W := 2) (tw H 606 rfl) (tw H 607 rfl) (nf_self K (tw H 609 rfl)) (tw H 609 rfl) (tw H 608 rfl) (w564 H) (tw H 610 rfl) (by decide) (rm80_188 H b7 p1 p2 p3 bx1 Ol17 f11) e18 f11.1 rfl rfl rfl (lenOf pd_23 rfl) rfl d73_227 (by decide) ?_
  rintro T19 v19 L19 X19 ⟨rfl, N19q, e19⟩
  have N19 := Fr.app N17 N19q
  show Go _ _ _ _ _ (mkF _ _ _ [.int 2, (.int ((p1 * 6) + p2)), .ref a6])
  have ne4 : a6 ≠ b7 := (Nat.ne_of_lt (Nat.lt_of_lt_of_le A_2.lt sz7))
  have f12 := ((A_2.keep kb3 (ninS ne4 (ninS ne_6 (ninS ne_5 nin0)))).other W17 ne_7)
  refine G39 X19 K (vs' := (u2.set ((p1 * 6) + p2).toNatClampNeg (.int 2))) e19 f12 (cl_ce G_1.1).2.2.1 (gs_s G_1) rfl d73_230 ?_
  intro T20 h20 X20 e20 W20 F20
  obtain ⟨N20, Ol20, Kp20⟩ := ivW N19 Ol17 Kp17 X20 W20 ge_4 (ow 1 rfl)
  rcases Y_1 with rfl | rfl
  · refine G0 X20 K d73_231 rfl rfl ?_
    refine G1 X20 K d73_232 rfl ?_
    refine G1 X20 K d73_233 rfl ?_
    refine G1 X20 K d73_234 rfl ?_
    have f13 := B_1.keep Kp20 nw_a1
    have f14 := B_3.keep Kp20 nw_a4
    have f15 := B_4.keep Kp20 nw_a14
    have ne5 : a8 ≠ b7 := (Nat.ne_of_lt (Nat.lt_of_lt_of_le A_4.lt sz7))
    have f16 := (((A_4.keep kb3 (ninS ne5 (ninS ne_9 (ninS ne_8 nin0)))).other W17 ne_10).other W20 ne_11)
    refine G25 X20 K (W := 0) (w611 H) (w613 H) (selPriv (w474 H) (w613 H) (w612 H) (by decide)) (w612 H) (w475 H) (w614 H) (by decide) (rm81_172 H a1 p1 p2 a3 a4 a5 a6 a7 a8 a11 a12 a13 a14 a15 a16 a17 u4 k4 Ol20 f13 f14 (cn1 G_1.1) f15 ge_5 f16 G_1.2.2.2.2.2.1 ge_6 ne_12) e20 f13.1 rfl rfl rfl (lenOf pd_48 rfl) rfl d73_235 (by decide) ?_
    rintro T21 v21 L21 X21 ⟨rfl, N21q, Kc21, g5⟩
    obtain ⟨N21, Ol21, Kp21⟩ := ivK N20 Ol20 Kp20 N21q Kc21 (allS ge_6 all0) (kaS (ow 3 rfl) all0)
    show Go _ _ _ _ _ (mkF _ _ _ [])
    refine G0 X21 K d73_238 rfl rfl ?_
    refine G1 X21 K d73_239 rfl ?_
    refine G1 X21 K d73_240 rfl ?_
    refine G1 X21 K d73_241 rfl ?_
    have f17 := B_1.keep Kp21 nw_a1
    have f18 := B_3.keep Kp21 nw_a4
    have f19 := B_4.keep Kp21 nw_a14
    refine G25 X21 K (W := 0) (w611 H) (w613 H) (selPriv (w474 H) (w613 H) (w612 H) (by decide)) (w612 H) (w475 H) (w614 H) (by decide) (rm81_175 H a1 p2 p1 a3 a4 a5 a6 a7 a8 a11 a12 a13 a14 a15 a16 a17 (u4.set ((p1 * 2) + 1).toNatClampNeg (.long (msk p2))) k4 Ol21 f17 f18 (cn0 G_1.1) f19 ge_5 g5 (li2 G_1.1 G_1.2.2.2.2.2.2) ge_6 ne_12) rfl f17.1 rfl rfl rfl (lenOf pd_48 rfl) rfl d73_242 (by decide) ?_
    rintro T22 v22 L22 X22 ⟨rfl, N22q, Kc22, g6⟩
    obtain ⟨N22, Ol22, Kp22⟩ := ivK N21 Ol21 Kp21 N22q Kc22 (allS ge_6 all0) (kaS (ow 3 rfl) all0)
    show Go _ _ _ _ _ (mkF _ _ _ [])
    refine G1 X22 K d73_245 rfl ?_
    refine G15 258 X22 K d73_246 (by decide) (by decide) (by decide) ?_
    refine G0 X22 K d73_258 rfl rfl ?_
    refine G1 X22 K d73_259 rfl ?_
    refine G1 X22 K d73_260 rfl ?_
    have f20 := B_1.keep Kp22 nw_a1
    have f21 := B_3.keep Kp22 nw_a4
    refine G25 X22 K (W := 0) (tw H 635 rfl) (tw H 637 rfl) (selPriv (w474 H) (tw H 637 rfl) (tw H 636 rfl) (by decide)) (tw H 636 rfl) (w475 H) (tw H 638 rfl) (by decide) (rm86_176 H a1 p1 p2 a3 a4 a5 a6 a7 a8 a11 a12 a13 a14 a15 Ol22 f20 f21 G_1.1) rfl f20.1 rfl rfl rfl (lenOf pd_49 rfl) rfl d73_261 (by decide) ?_
    rintro T23 v23 L23 X23 ⟨rfl, N23q, e23⟩
    have N23 := Fr.app N22 N23q
    show Go _ _ _ _ _ (mkF _ _ _ [])
    refine G17 X23 K d73_264 (by decide) (by decide) ?_
    rw [e23]
    have f22 := (((F17.other W20 ne_13).keep Kc21 (ninS ne_14 nin0)).keep Kc22 (ninS ne_14 nin0))
    have f23 := ((F20.keep Kc21 (ninS ne_15 nin0)).keep Kc22 (ninS ne_15 nin0))
    exact ⟨rfl, N23, Kp22, f22, f23⟩
  · refine G0 X20 K d73_231 rfl rfl ?_
    refine G1 X20 K d73_232 rfl ?_
    refine G1 X20 K d73_233 rfl ?_
    refine G1 X20 K d73_234 rfl ?_
    have f24 := B_1.keep Kp20 nw_a1
    have f25 := B_3.keep Kp20 nw_a4
    have f26 := B_4.keep Kp20 nw_a14
    have ne6 : a7 ≠ b7 := (Nat.ne_of_lt (Nat.lt_of_lt_of_le A_3.lt sz7))
    have f27 := (((A_3.keep kb3 (ninS ne6 (ninS ne_17 (ninS ne_16 nin0)))).other W17 ne_18).other W20 ne_19)
    refine G25 X20 K (W := 0) (w611 H) (w613 H) (selPriv (w474 H) (w613 H) (w612 H) (by decide)) (w612 H) (w475 H) (w614 H) (by decide) (rm81_178 H a1 p1 p2 a3 a4 a5 a6 a7 a8 a11 a12 a13 a14 a15 a16 a17 u3 k3 Ol20 f24 f25 (cn1 G_1.1) f26 ge_5 f27 G_1.2.2.2.2.1.1 ge_7) e20 f24.1 rfl rfl rfl (lenOf pd_48 rfl) rfl d73_235 (by decide) ?_
    rintro T24 v24 L24 X24 ⟨rfl, N24q, Kc24, g7⟩
    obtain ⟨N24, Ol24, Kp24⟩ := ivK N20 Ol20 Kp20 N24q Kc24 (allS ge_7 all0) (kaS (ow 2 rfl) all0)
    show Go _ _ _ _ _ (mkF _ _ _ [])
    refine G0 X24 K d73_238 rfl rfl ?_
    refine G1 X24 K d73_239 rfl ?_
    refine G1 X24 K d73_240 rfl ?_
    refine G1 X24 K d73_241 rfl ?_
    have f28 := B_1.keep Kp24 nw_a1
    have f29 := B_3.keep Kp24 nw_a4
    have f30 := B_4.keep Kp24 nw_a14
    refine G25 X24 K (W := 0) (w611 H) (w613 H) (selPriv (w474 H) (w613 H) (w612 H) (by decide)) (w612 H) (w475 H) (w614 H) (by decide) (rm81_180 H a1 p2 p1 a3 a4 a5 a6 a7 a8 a11 a12 a13 a14 a15 a16 a17 (u3.set ((p1 * 2) + 1).toNatClampNeg (.int p2)) k3 Ol24 f28 f29 (cn0 G_1.1) f30 ge_5 g7 (li2 G_1.1 G_1.2.2.2.2.1.2) ge_7) rfl f28.1 rfl rfl rfl (lenOf pd_48 rfl) rfl d73_242 (by decide) ?_
    rintro T25 v25 L25 X25 ⟨rfl, N25q, Kc25, g8⟩
    obtain ⟨N25, Ol25, Kp25⟩ := ivK N24 Ol24 Kp24 N25q Kc25 (allS ge_7 all0) (kaS (ow 2 rfl) all0)
    show Go _ _ _ _ _ (mkF _ _ _ [])
    refine G1 X25 K d73_245 rfl ?_
    refine G11 X25 K d73_246 (by decide) ?_
    refine G0 X25 K d73_249 rfl rfl ?_
    refine G1 X25 K d73_250 rfl ?_
    refine G1 X25 K d73_251 rfl ?_
    have f31 := B_1.keep Kp25 nw_a1
    have f32 := B_3.keep Kp25 nw_a4
    refine G25 X25 K (W := 0) (tw H 639 rfl) (tw H 641 rfl) (selPriv (w474 H) (tw H 641 rfl) (tw H 640 rfl) (by decide)) (tw H 640 rfl) (w475 H) (tw H 642 rfl) (by decide) (rm87_181 H a1 p1 p2 a3 a4 a5 a6 a7 a8 a11 a12 a13 a14 a15 Ol25 f31 f32 G_1.1) rfl f31.1 rfl rfl rfl (lenOf pd_49 rfl) rfl d73_252 (by decide) ?_
    rintro T26 v26 L26 X26 ⟨rfl, N26q, e26⟩
    have N26 := Fr.app N25 N26q
    show Go _ _ _ _ _ (mkF _ _ _ [])
    refine G6 264 X26 K d73_255 (by decide) (by decide) ?_
    refine G17 X26 K d73_264 (by decide) (by decide) ?_
    rw [e26]
    have f33 := (((F17.other W20 ne_13).keep Kc24 (ninS ne_20 nin0)).keep Kc25 (ninS ne_20 nin0))
    have f34 := ((F20.keep Kc24 (ninS ne_21 nin0)).keep Kc25 (ninS ne_21 nin0))
    exact ⟨rfl, N26, Kp25, f33, f34⟩
theorem rm72_190 (H : Hyp Z a0) (a1 : Addr) (p1 p2 p3 : Int32) (a2 a3 a4 a5 a6 a7 a8 : Addr) (u1 : List Value) (k1 : ClassId) (u2 : List Value) (k2 : ClassId) (u3 : List Value) (k3 : ClassId) (u4 : List Value) (k4 : ClassId) (a9 : Addr) (k5 : ClassId) (a10 : Addr) (k6 : ClassId) (a11 a12 a13 a14 a15 a16 a17 : Addr) (Ol0 : Old Z (ζ Z) h0) (B_1 : Ω10 Z h0 a1 (.ref a3) (.ref a4) (.int 3) (.int 2) (.int 6) (.ref a5) (.ref a6) (.ref a7) (.ref a8) (.int 9) (.int 2147483647) (.int 2147483647)) (A_1 : Arv Z h0 a5 k1 .byte 36 u1 (.int 0)) (A_2 : Arv Z h0 a6 k2 .int 36 u2 (.int 0)) (A_3 : Arv Z h0 a7 k3 .int 12 u3 (.int 0)) (A_4 : Arv Z h0 a8 k4 .long 12 u4 (.long 0)) (G_1 : Gs u1 u2 u3 u4 p1 p2) (Y_1 : p3 = 0 ∨ p3 = 1) (B_2 : Ω0 Z h0 a3 (.int 1) (.ref a9) (.int 1)) (A_5 : Arv Z h0 a2 k5 .int 0 [] (.int 0)) (A_6 : Arv Z h0 a9 k6 (.object Q3) 10 [.ref a10, .null, .null, .null, .null, .null, .null, .null, .null, .null] .null) (B_3 : Ω4 Z h0 a4 (.ref a11) (.ref a12) (.ref a13) (.ref a14) (.int 3) (.ref a15)) (B_4 : Ω6 Z h0 a14 (.ref a16) (.ref a17)) (ge_1 : (ζ Z) ≤ a3) (ne_1 : a9 ≠ a3) (O_1 : Ovr Z k6 Q3) (ge_2 : (ζ Z) ≤ a9) (ne_2 : a3 ≠ a9) (ne_3 : a5 ≠ a9) (ne_4 : a5 ≠ a3) (ge_3 : (ζ Z) ≤ a5) (ne_5 : a6 ≠ a9) (ne_6 : a6 ≠ a3) (ne_7 : a6 ≠ a5) (ge_4 : (ζ Z) ≤ a6) (ge_5 : (ζ Z) ≤ a17) (ne_8 : a8 ≠ a9) (ne_9 : a8 ≠ a3) (ne_10 : a8 ≠ a5) (ne_11 : a8 ≠ a6) (ge_6 : (ζ Z) ≤ a8) (ne_12 : a1 ≠ a8) (ne_13 : a5 ≠ a6) (ne_14 : a5 ≠ a8) (ne_15 : a6 ≠ a8) (ne_16 : a7 ≠ a9) (ne_17 : a7 ≠ a3) (ne_18 : a7 ≠ a5) (ne_19 : a7 ≠ a6) (ge_7 : (ζ Z) ≤ a7) (ne_20 : a5 ≠ a7) (ne_21 : a6 ≠ a7) (ne_22 : a1 ≠ a9) (ne_23 : a1 ≠ a3) (ne_24 : a1 ≠ a7) (ne_25 : a1 ≠ a6) (ne_26 : a1 ≠ a5) (ne_27 : a14 ≠ a9) (ne_28 : a14 ≠ a3) (ne_29 : a14 ≠ a8) (ne_30 : a14 ≠ a7) (ne_31 : a14 ≠ a6) (ne_32 : a14 ≠ a5) (ne_33 : a2 ≠ a9) (ne_34 : a2 ≠ a3) (ne_35 : a2 ≠ a8) (ne_36 : a2 ≠ a7) (ne_37 : a2 ≠ a6) (ne_38 : a2 ≠ a5) (ne_39 : a4 ≠ a9) (ne_40 : a4 ≠ a3) (ne_41 : a4 ≠ a8) (ne_42 : a4 ≠ a7) (ne_43 : a4 ≠ a6) (ne_44 : a4 ≠ a5) :
    Mt l Z M85 C37 7 none [] ⟨6, 2, 8, 125⟩ #[.ref a1, .int p1, .int p2, .int p3, .null, .null, .ref a2] h0 (fun v h L => (v = none ∧ Fr (ζ Z) L ∧ Keep h0 h [a5, a6, a7, a8, a3, a9] ∧ Arv Z h a5 k1 .byte 36 (u1.set ((p1 * 6) + p2).toNatClampNeg (.int (vl p3))) (.int 0) ∧ Arv Z h a6 k2 .int 36 (u2.set ((p1 * 6) + p2).toNatClampNeg (.int 2)) (.int 0))) := by
  refine g_be (pf pn1) (ef_70 a1 p1 p2 p3 a2) fun T0 K X0 e0 => ?_
  refine G0 X0 K d72_0 rfl rfl ?_
  refine G1 X0 K d72_1 rfl ?_
  refine G1 X0 K d72_2 rfl ?_
  refine G1 X0 K d72_3 rfl ?_
  refine G7 X0 K d72_4 rfl rfl ?_
  refine G7 X0 K d72_6 rfl rfl ?_
  refine G28 X0 K d72_8 ?_
  refine G7 X0 K d72_9 rfl rfl ?_
  refine G25 X0 K (W := 0) (tw H 557 rfl) (tw H 559 rfl) (selPriv (w474 H) (tw H 559 rfl) (tw H 558 rfl) (by decide)) (tw H 558 rfl) (w475 H) (tw H 560 rfl) (by decide) (rm73_189 H a1 p1 p2 p3 a2 a3 a4 a5 a6 a7 a8 u1 k1 u2 k2 u3 k3 u4 k4 a9 k5 a10 k6 a11 a12 a13 a14 a15 a16 a17 Ol0 B_1 A_1 A_2 A_3 A_4 G_1 Y_1 B_2 A_5 A_6 ge_1 ne_1 O_1 ge_2 ne_2 ne_3 ne_4 ge_3 ne_5 ne_6 ne_7 ge_4 B_3 B_4 ge_5 ne_8 ne_9 ne_10 ne_11 ge_6 ne_12 ne_13 ne_14 ne_15 ne_16 ne_17 ne_18 ne_19 ge_7 ne_20 ne_21 ne_22 ne_23 ne_24 ne_25 ne_26 ne_27 ne_28 ne_29 ne_30 ne_31 ne_32 ne_33 ne_34 ne_35 ne_36 ne_37 ne_38 ne_39 ne_40 ne_41 ne_42 ne_43 ne_44) e0 B_1.1 rfl rfl rfl (lenOf pd_50 rfl) rfl d72_11 (by decide) ?_
  rintro T1 v1 L1 X1 ⟨rfl, N1q, Kc1, g1, g2⟩
  obtain ⟨N1, Ol1, Kp1⟩ := ivK (Fr.nil _) Ol0 (Keep.refl h0 [a5, a6, a7, a8, a3, a9]) N1q Kc1 (allS ge_3 (allS ge_4 (allS ge_7 (allS ge_6 (allS ge_1 (allS ge_2 all0)))))) (kaS (ow 0 rfl) (kaS (ow 1 rfl) (kaS (ow 2 rfl) (kaS (ow 3 rfl) (kaS (ow 4 rfl) (kaS (ow 5 rfl) all0))))))
  show Go _ _ _ _ _ (mkF _ _ _ [])
  refine G17 X1 K d72_14 (by decide) (by decide) ?_
  exact ⟨rfl, N1, Kp1, g1, g2⟩
theorem rm0 (l : Launch) (H : Hyp Z a0) (p0 p1 p2 p3 : Int32) (h0 : Heap) (Ol0 : Old Z (ζ Z) h0) :
    MtS l Z x code maxLocals ret tables_1 room_1 #[.int p0, .int p1, .int p2, .int p3] h0 (fun v h L => v = some (.int 1) ∧ Fr (ζ Z) L) := by
  refine g_bodyS (bytes := code) (maxL := maxLocals) (ret := some .boolean) (pf pn2) ?_
  intro p e s m below meth c T0 K X0 e0 hs0 I0
  refine g_entry ((ef_72 p0 p1 p2 p3) m) ?_
  refine G1 X0 K at_0 rfl ?_
  refine G3 X0 K (v := 1) at_1 (by decide) ?_
  refine G30 X0 K at_2 rfl ?_
  obtain ⟨fl4, hfl4⟩ : ∃ z, fl (p0 &&& 1) = z := ⟨_, rfl⟩
  refine G44 X0 K (q := 11) (v := fl4) at_3 at_6 at_7 at_10 (u := 1) (w := 0) (by decide) (by decide) rfl hfl4 ?_
  refine G12 X0 K (L' := #[vi p0, vi p1, vi p2, vi p3, vi fl4, un, un, un, un, un, un, un, un, un, un, un, un, un, un, un, un, un, un]) at_11 rfl ?_
  refine G1 X0 K at_13 rfl ?_
  refine G3 X0 K (v := 2) at_14 (by decide) ?_
  refine G30 X0 K at_15 rfl ?_
  obtain ⟨fl5, hfl5⟩ : ∃ z, fl (p0 &&& 2) = z := ⟨_, rfl⟩
  refine G44 X0 K (q := 24) (v := fl5) at_16 at_19 at_20 at_23 (u := 1) (w := 0) (by decide) (by decide) rfl hfl5 ?_
  refine G12 X0 K (L' := #[vi p0, vi p1, vi p2, vi p3, vi fl4, vi fl5, un, un, un, un, un, un, un, un, un, un, un, un, un, un, un, un, un]) at_24 rfl ?_
  refine G1 X0 K at_26 rfl ?_
  refine G3 X0 K (v := 4) at_27 (by decide) ?_
  refine G30 X0 K at_28 rfl ?_
  obtain ⟨fl6, hfl6⟩ : ∃ z, fl (p0 &&& 4) = z := ⟨_, rfl⟩
  refine G44 X0 K (q := 37) (v := fl6) at_29 at_32 at_33 at_36 (u := 1) (w := 0) (by decide) (by decide) rfl hfl6 ?_
  refine G12 X0 K (L' := #[vi p0, vi p1, vi p2, vi p3, vi fl4, vi fl5, vi fl6, un, un, un, un, un, un, un, un, un, un, un, un, un, un, un, un]) at_37 rfl ?_
  refine G1 X0 K at_39 rfl ?_
  refine G29 X0 K (v := 8) at_40 (by decide) ?_
  refine G30 X0 K at_42 rfl ?_
  obtain ⟨fl7, hfl7⟩ : ∃ z, fl (p0 &&& 8) = z := ⟨_, rfl⟩
  refine G44 X0 K (q := 51) (v := fl7) at_43 at_46 at_47 at_50 (u := 1) (w := 0) (by decide) (by decide) rfl hfl7 ?_
  refine G12 X0 K (L' := #[vi p0, vi p1, vi p2, vi p3, vi fl4, vi fl5, vi fl6, vi fl7, un, un, un, un, un, un, un, un, un, un, un, un, un, un, un]) at_51 rfl ?_
  refine G1 X0 K at_53 rfl ?_
  refine G29 X0 K (v := 16) at_54 (by decide) ?_
  refine G30 X0 K at_56 rfl ?_
  obtain ⟨fl8, hfl8⟩ : ∃ z, fl (p0 &&& 16) = z := ⟨_, rfl⟩
  refine G44 X0 K (q := 65) (v := fl8) at_57 at_60 at_61 at_64 (u := 1) (w := 0) (by decide) (by decide) rfl hfl8 ?_
  refine G12 X0 K (L' := #[vi p0, vi p1, vi p2, vi p3, vi fl4, vi fl5, vi fl6, vi fl7, vi fl8, un, un, un, un, un, un, un, un, un, un, un, un, un, un]) at_65 rfl ?_
  refine G1 X0 K at_67 rfl ?_
  refine G29 X0 K (v := 32) at_68 (by decide) ?_
  refine G30 X0 K at_70 rfl ?_
  obtain ⟨fl9, hfl9⟩ : ∃ z, fl (p0 &&& 32) = z := ⟨_, rfl⟩
  refine G44 X0 K (q := 79) (v := fl9) at_71 at_74 at_75 at_78 (u := 1) (w := 0) (by decide) (by decide) rfl hfl9 ?_
  refine G12 X0 K (L' := #[vi p0, vi p1, vi p2, vi p3, vi fl4, vi fl5, vi fl6, vi fl7, vi fl8, vi fl9, un, un, un, un, un, un, un, un, un, un, un, un, un]) at_79 rfl ?_
  refine G1 X0 K at_81 rfl ?_
  refine G29 X0 K (v := 64) at_82 (by decide) ?_
  refine G30 X0 K at_84 rfl ?_
  obtain ⟨fl10, hfl10⟩ : ∃ z, fl (p0 &&& 64) = z := ⟨_, rfl⟩
  refine G44 X0 K (q := 93) (v := fl10) at_85 at_88 at_89 at_92 (u := 1) (w := 0) (by decide) (by decide) rfl hfl10 ?_
  refine G12 X0 K (L' := #[vi p0, vi p1, vi p2, vi p3, vi fl4, vi fl5, vi fl6, vi fl7, vi fl8, vi fl9, vi fl10, un, un, un, un, un, un, un, un, un, un, un, un]) at_93 rfl ?_
  refine G1 X0 K at_95 rfl ?_
  refine G29 X0 K (v := 7) at_96 (by decide) ?_
  refine G90 X0 K at_98 rfl ?_
  refine G3 X0 K (v := 1) at_99 (by decide) ?_
  have bsh := and1 (p0 >>> (7 &&& 31))
  obtain ⟨sh, hsh⟩ : ∃ z : Int32, (p0 >>> (7 &&& 31)) &&& 1 = z := ⟨_, rfl⟩
  rw [hsh] at bsh
  refine G30 X0 K (z := sh) at_100 hsh ?_
  refine G12 X0 K (L' := #[vi p0, vi p1, vi p2, vi p3, vi fl4, vi fl5, vi fl6, vi fl7, vi fl8, vi fl9, vi fl10, vi sh, un, un, un, un, un, un, un, un, un, un, un]) at_101 rfl ?_
  refine G1 X0 K at_103 rfl ?_
  refine G50 X0 K (tw H 0 rfl) at_104 ?_
  refine G30 X0 K at_106 rfl ?_
  refine G3 X0 K (v := 3) at_107 (by decide) ?_
  have bii := own_rem p1 (n := 3) (k := 3) (by decide) (by decide)
  obtain ⟨ii, hii⟩ : ∃ z : Int32, (p1 &&& 2147483647) % 3 = z := ⟨_, rfl⟩
  rw [hii] at bii
  have tii := t3 bii
  refine G63 X0 K (z := ii) at_108 (by decide) hii ?_
  refine G12 X0 K (L' := #[vi p0, vi p1, vi p2, vi p3, vi fl4, vi fl5, vi fl6, vi fl7, vi fl8, vi fl9, vi fl10, vi sh, vi ii, un, un, un, un, un, un, un, un, un, un]) at_109 rfl ?_
  refine G4 X0 K at_111 rfl ?_
  refine G3 X0 K (v := 1) at_113 (by decide) ?_
  refine G16 X0 K at_114 rfl ?_
  refine G4 X0 K at_115 rfl ?_
  refine G16 X0 K at_117 rfl ?_
  refine G3 X0 K (v := 3) at_118 (by decide) ?_
  obtain ⟨jj, hjj⟩ : ∃ z : Int32, ((ii + 1) + sh) % 3 = z := ⟨_, rfl⟩
  have tjj := jj3 tii bsh hjj
  refine G63 X0 K (z := jj) at_119 (by decide) hjj ?_
  refine G12 X0 K (L' := #[vi p0, vi p1, vi p2, vi p3, vi fl4, vi fl5, vi fl6, vi fl7, vi fl8, vi fl9, vi fl10, vi sh, vi ii, vi jj, un, un, un, un, un, un, un, un, un]) at_120 rfl ?_
  refine G1 X0 K at_122 rfl ?_
  refine G50 X0 K (tw H 0 rfl) at_123 ?_
  refine G30 X0 K at_125 rfl ?_
  refine G3 X0 K (v := 3) at_126 (by decide) ?_
  have bea := own_rem p2 (n := 3) (k := 3) (by decide) (by decide)
  obtain ⟨ea, hea⟩ : ∃ z : Int32, (p2 &&& 2147483647) % 3 = z := ⟨_, rfl⟩
  rw [hea] at bea
  have tea := t3 bea
  refine G63 X0 K (z := ea) at_127 (by decide) hea ?_
  refine G12 X0 K (L' := #[vi p0, vi p1, vi p2, vi p3, vi fl4, vi fl5, vi fl6, vi fl7, vi fl8, vi fl9, vi fl10, vi sh, vi ii, vi jj, vi ea, un, un, un, un, un, un, un, un]) at_128 rfl ?_
  refine G3 X0 K (v := 3) at_130 (by decide) ?_
  refine G1 X0 K at_131 rfl ?_
  refine G50 X0 K (tw H 0 rfl) at_132 ?_
  refine G30 X0 K at_134 rfl ?_
  refine G3 X0 K (v := 3) at_135 (by decide) ?_
  have ber := own_rem p3 (n := 3) (k := 3) (by decide) (by decide)
  obtain ⟨er, her⟩ : ∃ z : Int32, (p3 &&& 2147483647) % 3 = z := ⟨_, rfl⟩
  rw [her] at ber
  have ter := t3 ber
  refine G63 X0 K (z := er) at_136 (by decide) her ?_
  obtain ⟨eb, heb⟩ : ∃ z : Int32, 3 + er = z := ⟨_, rfl⟩
  obtain ⟨bP, hbP⟩ : ∃ z : Int32, 3 + ii = z := ⟨_, rfl⟩
  obtain ⟨bQ, hbQ⟩ : ∃ z : Int32, 3 + jj = z := ⟨_, rfl⟩
  obtain ⟨aP, haP⟩ : ∃ z : Int32, 0 = z := ⟨_, rfl⟩
  obtain ⟨aQ, haQ⟩ : ∃ z : Int32, 1 = z := ⟨_, rfl⟩
  have clE : Cl ea eb := ⟨tea, u3 ter heb⟩
  have clP : Cl aP bP := ⟨Or.inl haP.symm, u3 tii hbP⟩
  have clQ : Cl aQ bQ := ⟨Or.inr (Or.inl haQ.symm), u3 tjj.1 hbQ⟩
  have nA : aP ≠ aQ := by rw [← haP, ← haQ]; decide
  have nB : bP ≠ bQ := ne3 tii tjj.1 tjj.2 hbP hbQ
  refine G16 X0 K (z := eb) at_137 heb ?_
  refine G12 X0 K (L' := #[vi p0, vi p1, vi p2, vi p3, vi fl4, vi fl5, vi fl6, vi fl7, vi fl8, vi fl9, vi fl10, vi sh, vi ii, vi jj, vi ea, vi eb, un, un, un, un, un, un, un]) at_138 rfl ?_
  refine G27 X0 K (tw H 1 rfl) (w2 H) (w3 H) e0 at_140 (by decide) (by decide) ?_
  intro T1 h1 b1 X1 e1 E1 z1 A1 D1
  have ge1 : (ζ Z) ≤ b1 := Nat.le_trans Ol0.2.1 (Nat.le_of_eq z1)
  have so1 := Sd.one b1
  have Ol1 := Ol0.ext E1
  have O1 := Ω0.new H A1 D1
  refine G9 X1 K at_143 rfl ?_
  refine G23 X1 K (W := 1) rfl (tw H 4 rfl) (tw H 5 rfl) (w3 H) (tw H 6 rfl) (by decide) (rm1_3 H b1 Ol1 O1 ge1) e1 rfl rfl rfl (lenOf pd_0 rfl) rfl at_144 (by decide) ?_
  rintro T2 v2 L2 X2 ⟨rfl, N2q, Kc2, g1⟩
  have N2 := Fr.app (Fr.nil _) N2q
  have Ol2 := Ol1.keep Kc2 (allS ge1 all0)
  show Go _ _ _ _ _ (mkF _ _ _ [.ref b1])
  refine G26 X2 K (L' := #[vi p0, vi p1, vi p2, vi p3, vi fl4, vi fl5, vi fl6, vi fl7, vi fl8, vi fl9, vi fl10, vi sh, vi ii, vi jj, vi ea, vi eb, vr b1, un, un, un, un, un, un]) at_147 rfl rfl ?_
  refine G7 X2 K at_149 rfl rfl ?_
  refine G82 (s := s) (vm0 := s.vm) X2 K (since_refl s 0) rfl (Nat.zero_le _) (tw H 27 rfl) (atomsS H) at_151 (n := 4) (by decide) (by decide) (by decide) (by decide) ?_
  intro T3 h3 vm3 k3 b3 X3 K e3 E3 hS3 hk3
  have Ol3 := Ol2.ext E3
  refine G29 X3 K (v := 97) at_153 (by decide) ?_
  refine G14 X3 K (W := 1) (tw H 35 rfl) (tw H 36 rfl) (tw H 37 rfl) (tw H 38 rfl) (by decide) (rm5_38 H b3 Ol3) e3 rfl rfl rfl (lenOf pd_18 rfl) rfl at_155 (by decide) ?_
  rintro T4 v4 L4 X4 ⟨bx1, bx2, bx3, bx4, bx5, bx6, bx7, bx8, bx9, kB1, kB2, kB3, kB4, rfl, N4q, Kc4, lz4_0, lz4_1, lz4_2, lz4_3, lz4_4, lz4_5, lz4_6, lz4_7, lz4_8, g2, g3, g4, g5, g6, g7, g8, g9, g10, g11, g12⟩
  have N4 := Fr.app N2 N4q
  have gebx1 := Nat.le_trans Ol3.2.1 lz4_0
  have f1 := (g1.ext E3)
  have lkbx1 : b1 < bx1 := Nat.lt_of_lt_of_le f1.lt lz4_0
  have so2 := so1.cons lkbx1
  have gebx2 := Nat.le_trans gebx1 (Nat.le_of_lt lz4_1)
  have so3 := so2.cons lz4_1
  have gebx3 := Nat.le_trans gebx2 (Nat.le_of_lt lz4_2)
  have so4 := so3.cons lz4_2
  have gebx4 := Nat.le_trans gebx3 (Nat.le_of_lt lz4_3)
  have so5 := so4.cons lz4_3
  have gebx5 := Nat.le_trans gebx4 (Nat.le_of_lt lz4_4)
  have so6 := so5.cons lz4_4
  have gebx6 := Nat.le_trans gebx5 (Nat.le_of_lt lz4_5)
  have so7 := so6.cons lz4_5
  have gebx7 := Nat.le_trans gebx6 (Nat.le_of_lt lz4_6)
  have so8 := so7.cons lz4_6
  have gebx8 := Nat.le_trans gebx7 (Nat.le_of_lt lz4_7)
  have so9 := so8.cons lz4_7
  have gebx9 := Nat.le_trans gebx8 (Nat.le_of_lt lz4_8)
  have so10 := so9.cons lz4_8
  have Ol4 := Ol3.keep Kc4 all0
  show Go _ _ _ _ _ (mkF _ _ _ [.ref bx7, .ref b1])
  have f2 := (f1.keep Kc4 nin0)
  have ne1 := so10.ne 2 9 rfl rfl rfl
  refine G20 X4 K (W := 0) (tw H 193 rfl) (tw H 194 rfl) (mvT K.z (tw H 195 rfl)) (tw H 196 rfl) (w60 H) (tw H 197 rfl) (tw H 198 rfl) (w199 H) (w3 H) (w62 H) (by decide) (rm10_40 H b1 bx7 b3 bx9 Ol4 f2 ge1 g8 ne1) rfl f2.1 rfl rfl rfl (lenOf pd_9 rfl) rfl at_158 (by decide) ?_
  rintro T5 v5 L5 X5 ⟨bx10, kB5, rfl, N5q, Kc5, lz5_0, g13, g14, g15, g16⟩
  have N5 := Fr.app N4 N5q
  have gebx10 := Nat.le_trans Ol4.2.1 lz5_0
  have lkbx10 : bx9 < bx10 := Nat.lt_of_lt_of_le g12.lt lz5_0
  have so11 := so10.cons lkbx10
  have Ol5 := Ol4.keep Kc5 (allS ge1 all0)
  show Go _ _ _ _ _ (mkF _ _ _ [.int 1])
  refine G37 X5 K at_163 rfl ?_
  refine G7 X5 K at_164 rfl rfl ?_
  refine G82 X5 K hS3 rfl (Nat.le_trans (Nat.le_trans hk3 Kc4.1) Kc5.1) (tw H 201 rfl) (atomsS H) at_166 (n := 4) (by decide) (by decide) (by decide) (by decide) ?_
  intro T6 h6 vm6 k6 b6 X6 K e6 E6 hS6 hk6
  have Ol6 := Ol5.ext E6
  refine G29 X6 K (v := 100) at_168 (by decide) ?_
  refine G14 X6 K (W := 1) (tw H 35 rfl) (tw H 36 rfl) (tw H 37 rfl) (tw H 38 rfl) (by decide) (rm5_50 H b6 Ol6) e6 rfl rfl rfl (lenOf pd_18 rfl) rfl at_170 (by decide) ?_
  rintro T7 v7 L7 X7 ⟨bx11, bx12, bx13, bx14, bx15, bx16, bx17, bx18, bx19, kB6, kB7, kB8, kB9, rfl, N7q, Kc7, lz7_0, lz7_1, lz7_2, lz7_3, lz7_4, lz7_5, lz7_6, lz7_7, lz7_8, g17, g18, g19, g20, g21, g22, g23, g24, g25, g26, g27⟩
  have N7 := Fr.app N5 N7q
  have gebx11 := Nat.le_trans Ol6.2.1 lz7_0
  have f3 := (g14.ext E6)
  have lkbx11 : bx10 < bx11 := Nat.lt_of_lt_of_le f3.lt lz7_0
  have so12 := so11.cons lkbx11
  have gebx12 := Nat.le_trans gebx11 (Nat.le_of_lt lz7_1)
  have so13 := so12.cons lz7_1
  have gebx13 := Nat.le_trans gebx12 (Nat.le_of_lt lz7_2)
  have so14 := so13.cons lz7_2
  have gebx14 := Nat.le_trans gebx13 (Nat.le_of_lt lz7_3)
  have so15 := so14.cons lz7_3
  have gebx15 := Nat.le_trans gebx14 (Nat.le_of_lt lz7_4)
  have so16 := so15.cons lz7_4
  have gebx16 := Nat.le_trans gebx15 (Nat.le_of_lt lz7_5)
  have so17 := so16.cons lz7_5
  have gebx17 := Nat.le_trans gebx16 (Nat.le_of_lt lz7_6)
  have so18 := so17.cons lz7_6
  have gebx18 := Nat.le_trans gebx17 (Nat.le_of_lt lz7_7)
  have so19 := so18.cons lz7_7
  have gebx19 := Nat.le_trans gebx18 (Nat.le_of_lt lz7_8)
  have so20 := so19.cons lz7_8
  have Ol7 := Ol6.keep Kc7 all0
  show Go _ _ _ _ _ (mkF _ _ _ [.ref bx17, .ref b1])
  have f4 := ((g13.ext E6).keep Kc7 nin0)
  have f5 := (f3.keep Kc7 nin0)
  have ne2 := so20.ne 9 19 rfl rfl rfl
  have ne3 := so20.ne 2 9 rfl rfl rfl
  have ne4 := so20.ne 2 19 rfl rfl rfl
  refine G20 X7 K (W := 0) (tw H 193 rfl) (tw H 194 rfl) (mvT K.z (tw H 195 rfl)) (tw H 196 rfl) (w60 H) (tw H 197 rfl) (tw H 198 rfl) (w199 H) (w3 H) (w62 H) (by decide) (rm10_52 H b1 bx17 bx10 bx7 kB5 b6 bx19 Ol7 f4 ge1 f5 g23 ne2 g16 gebx10 (Ne.symm ne2) ne3 ne4) rfl f4.1 rfl rfl rfl (lenOf pd_9 rfl) rfl at_173 (by decide) ?_
  rintro T8 v8 L8 X8 ⟨rfl, N8q, Kc8, g28, g29⟩
  have N8 := Fr.app N7 N8q
  have Ol8 := Ol7.keep Kc8 (allS ge1 (allS gebx10 all0))
  show Go _ _ _ _ _ (mkF _ _ _ [.int 1])
  refine G37 X8 K at_178 rfl ?_
  refine G27 X8 K (tw H 202 rfl) (w203 H) (w204 H) rfl at_179 (by decide) (by decide) ?_
  intro T9 h9 b9 X9 e9 E9 z9 A9 D9
  have ge9 : (ζ Z) ≤ b9 := Nat.le_trans Ol8.2.1 (Nat.le_of_eq z9)
  have f6 := (g27.keep Kc8 (so20.nin 0 [19, 9] rfl rfl rfl))
  have lk9 : bx19 < b9 := Nat.lt_of_lt_of_eq f6.lt z9
  have so21 := so20.cons lk9
  have Ol9 := Ol8.ext E9
  have O9 := Ω4.new H A9 D9
  refine G9 X9 K at_182 rfl ?_
  refine G82 X9 K hS6 e9 (Nat.le_trans (Nat.le_trans (Nat.le_trans hk6 Kc7.1) Kc8.1) (Keep.ofE E9).1) (tw H 205 rfl) (atomsS H) at_183 (n := 4) (by decide) (by decide) (by decide) (by decide) ?_
  intro T10 h10 vm10 k10 b10 X10 K e10 E10 hS10 hk10
  have Ol10 := Ol9.ext E10
  refine G7 X10 K at_185 rfl rfl ?_
  have f7 := (O9.ext E10)
  have f8 := ((g28.ext E9).ext E10)
  have f9 := ((g29.ext E9).ext E10)
  have f10 := (((g23.keep Kc8 (so21.nin 3 [20, 10] rfl rfl rfl)).ext E9).ext E10)
  have kb1 := Keep.cat Kc5 (Keep.ofE E6) [b1] [0] [] rfl rfl
  have kb2 := Keep.cat Kc7 Kc8 [b1, bx10] [] [0, 1] rfl rfl
  have kb3 := Keep.cat kb1 kb2 [b1, bx10] [0] [0, 1] rfl rfl
  have f11 := (((g8.keep kb3 (so21.nin 13 [20, 10] rfl rfl rfl)).ext E9).ext E10)
  have f12 := (((((g15.ext E6).keep Kc7).keep Kc8).ext E9).ext E10)
  have f13 := (((g12.keep kb3 (so21.nin 11 [20, 10] rfl rfl rfl)).ext E9).ext E10)
  have f14 := (((g9.keep kb3 (so21.nin 12 [20, 10] rfl rfl rfl)).ext E9).ext E10)
  have f15 := (((g2.keep kb3 (so21.nin 19 [20, 10] rfl rfl rfl)).ext E9).ext E10)
  have ne5 := so21.ne 19 0 rfl rfl rfl
  have f16 := (((g3.keep kb3 (so21.nin 18 [20, 10] rfl rfl rfl)).ext E9).ext E10)
  have f17 := (((g4.keep kb3 (so21.nin 17 [20, 10] rfl rfl rfl)).ext E9).ext E10)
  have ne6 := so21.ne 17 0 rfl rfl rfl
  have ne7 := so21.ne 17 19 rfl rfl rfl
  have f18 := (((g5.keep kb3 (so21.nin 16 [20, 10] rfl rfl rfl)).ext E9).ext E10)
  have f19 := (((g6.keep kb3 (so21.nin 15 [20, 10] rfl rfl rfl)).ext E9).ext E10)
  have ne8 := so21.ne 15 0 rfl rfl rfl
  have ne9 := so21.ne 15 19 rfl rfl rfl
  have ne10 := so21.ne 15 17 rfl rfl rfl
  have f20 := (((g7.keep kb3 (so21.nin 14 [20, 10] rfl rfl rfl)).ext E9).ext E10)
  have f21 := ((f6.ext E9).ext E10)
  have f22 := (((g24.keep Kc8 (so21.nin 2 [20, 10] rfl rfl rfl)).ext E9).ext E10)
  have f23 := (((g17.keep Kc8 (so21.nin 9 [20, 10] rfl rfl rfl)).ext E9).ext E10)
  have ne11 := so21.ne 9 0 rfl rfl rfl
  have ne12 := so21.ne 9 15 rfl rfl rfl
  have ne13 := so21.ne 9 17 rfl rfl rfl
  have ne14 := so21.ne 9 19 rfl rfl rfl
  have f24 := (((g18.keep Kc8 (so21.nin 8 [20, 10] rfl rfl rfl)).ext E9).ext E10)
  have f25 := (((g19.keep Kc8 (so21.nin 7 [20, 10] rfl rfl rfl)).ext E9).ext E10)
  have ne15 := so21.ne 7 0 rfl rfl rfl
  have ne16 := so21.ne 7 15 rfl rfl rfl
  have ne17 := so21.ne 7 17 rfl rfl rfl
  have ne18 := so21.ne 7 19 rfl rfl rfl
  have ne19 := so21.ne 7 9 rfl rfl rfl
  have f26 := (((g20.keep Kc8 (so21.nin 6 [20, 10] rfl rfl rfl)).ext E9).ext E10)
  have f27 := (((g21.keep Kc8 (so21.nin 5 [20, 10] rfl rfl rfl)).ext E9).ext E10)
  have ne20 := so21.ne 5 7 rfl rfl rfl
  have ne21 := so21.ne 5 9 rfl rfl rfl
  have ne22 := so21.ne 5 15 rfl rfl rfl
  have ne23 := so21.ne 5 17 rfl rfl rfl
  have ne24 := so21.ne 5 19 rfl rfl rfl
  have ne25 := so21.ne 5 0 rfl rfl rfl
  have f28 := (((g22.keep Kc8 (so21.nin 4 [20, 10] rfl rfl rfl)).ext E9).ext E10)
  have ne26 := so21.ne 11 5 rfl rfl rfl
  have ne27 := so21.ne 11 7 rfl rfl rfl
  have ne28 := so21.ne 11 9 rfl rfl rfl
  have ne29 := so21.ne 11 15 rfl rfl rfl
  have ne30 := so21.ne 11 17 rfl rfl rfl
  have ne31 := so21.ne 11 19 rfl rfl rfl
  have ne32 := so21.ne 11 0 rfl rfl rfl
  have ne33 := so21.ne 12 5 rfl rfl rfl
  have ne34 := so21.ne 12 7 rfl rfl rfl
  have ne35 := so21.ne 12 9 rfl rfl rfl
  have ne36 := so21.ne 12 15 rfl rfl rfl
  have ne37 := so21.ne 12 17 rfl rfl rfl
  have ne38 := so21.ne 12 19 rfl rfl rfl
  have ne39 := so21.ne 12 0 rfl rfl rfl
  have ne40 := so21.ne 18 5 rfl rfl rfl
  have ne41 := so21.ne 18 7 rfl rfl rfl
  have ne42 := so21.ne 18 9 rfl rfl rfl
  have ne43 := so21.ne 18 15 rfl rfl rfl
  have ne44 := so21.ne 18 17 rfl rfl rfl
  have ne45 := so21.ne 18 19 rfl rfl rfl
  have ne46 := so21.ne 18 0 rfl rfl rfl
  have ne47 := so21.ne 16 5 rfl rfl rfl
  have ne48 := so21.ne 16 7 rfl rfl rfl
  have ne49 := so21.ne 16 9 rfl rfl rfl
  have ne50 := so21.ne 16 15 rfl rfl rfl
  have ne51 := so21.ne 16 17 rfl rfl rfl
  have ne52 := so21.ne 16 19 rfl rfl rfl
  have ne53 := so21.ne 16 0 rfl rfl rfl
  have ne54 := so21.ne 14 5 rfl rfl rfl
  have ne55 := so21.ne 14 7 rfl rfl rfl
  have ne56 := so21.ne 14 9 rfl rfl rfl
  have ne57 := so21.ne 14 15 rfl rfl rfl
  have ne58 := so21.ne 14 17 rfl rfl rfl
  have ne59 := so21.ne 14 19 rfl rfl rfl
  have ne60 := so21.ne 14 0 rfl rfl rfl
  have ne61 := so21.ne 2 5 rfl rfl rfl
  have ne62 := so21.ne 2 7 rfl rfl rfl
  have ne63 := so21.ne 2 9 rfl rfl rfl
  have ne64 := so21.ne 2 15 rfl rfl rfl
  have ne65 := so21.ne 2 17 rfl rfl rfl
  have ne66 := so21.ne 2 19 rfl rfl rfl
  have ne67 := so21.ne 2 0 rfl rfl rfl
  have ne68 := so21.ne 8 5 rfl rfl rfl
  have ne69 := so21.ne 8 7 rfl rfl rfl
  have ne70 := so21.ne 8 9 rfl rfl rfl
  have ne71 := so21.ne 8 15 rfl rfl rfl
  have ne72 := so21.ne 8 17 rfl rfl rfl
  have ne73 := so21.ne 8 19 rfl rfl rfl
  have ne74 := so21.ne 8 0 rfl rfl rfl
  have ne75 := so21.ne 6 5 rfl rfl rfl
  have ne76 := so21.ne 6 7 rfl rfl rfl
  have ne77 := so21.ne 6 9 rfl rfl rfl
  have ne78 := so21.ne 6 15 rfl rfl rfl
  have ne79 := so21.ne 6 17 rfl rfl rfl
  have ne80 := so21.ne 6 19 rfl rfl rfl
  have ne81 := so21.ne 6 0 rfl rfl rfl
  have ne82 := so21.ne 4 5 rfl rfl rfl
  have ne83 := so21.ne 4 7 rfl rfl rfl
  have ne84 := so21.ne 4 9 rfl rfl rfl
  have ne85 := so21.ne 4 15 rfl rfl rfl
  have ne86 := so21.ne 4 17 rfl rfl rfl
  have ne87 := so21.ne 4 19 rfl rfl rfl
  have ne88 := so21.ne 4 0 rfl rfl rfl
  have ne89 := so21.ne 20 5 rfl rfl rfl
  have ne90 := so21.ne 20 7 rfl rfl rfl
  have ne91 := so21.ne 20 9 rfl rfl rfl
  have ne92 := so21.ne 20 15 rfl rfl rfl
  have ne93 := so21.ne 20 17 rfl rfl rfl
  have ne94 := so21.ne 20 19 rfl rfl rfl
  have ne95 := so21.ne 20 0 rfl rfl rfl
  have ne96 := so21.ne 10 5 rfl rfl rfl
  have ne97 := so21.ne 10 7 rfl rfl rfl
  have ne98 := so21.ne 10 9 rfl rfl rfl
  have ne99 := so21.ne 10 15 rfl rfl rfl
  have ne100 := so21.ne 10 17 rfl rfl rfl
  have ne101 := so21.ne 10 19 rfl rfl rfl
  have ne102 := so21.ne 10 0 rfl rfl rfl
  have ne103 := so21.ne 13 5 rfl rfl rfl
  have ne104 := so21.ne 13 7 rfl rfl rfl
  have ne105 := so21.ne 13 9 rfl rfl rfl
  have ne106 := so21.ne 13 15 rfl rfl rfl
  have ne107 := so21.ne 13 17 rfl rfl rfl
  have ne108 := so21.ne 13 19 rfl rfl rfl
  have ne109 := so21.ne 13 0 rfl rfl rfl
  have ne110 := so21.ne 3 5 rfl rfl rfl
  have ne111 := so21.ne 3 7 rfl rfl rfl
  have ne112 := so21.ne 3 9 rfl rfl rfl
  have ne113 := so21.ne 3 15 rfl rfl rfl
  have ne114 := so21.ne 3 17 rfl rfl rfl
  have ne115 := so21.ne 3 19 rfl rfl rfl
  have ne116 := so21.ne 3 0 rfl rfl rfl
  have ne117 := so21.ne 1 5 rfl rfl rfl
  have ne118 := so21.ne 1 7 rfl rfl rfl
  have ne119 := so21.ne 1 9 rfl rfl rfl
  have ne120 := so21.ne 1 15 rfl rfl rfl
  have ne121 := so21.ne 1 17 rfl rfl rfl
  have ne122 := so21.ne 1 19 rfl rfl rfl
  have ne123 := so21.ne 1 0 rfl rfl rfl
  refine G23 X10 K (W := 1) rfl (tw H 206 rfl) (tw H 207 rfl) (w204 H) (tw H 208 rfl) (by decide) (rm30_143 H b9 b10 b1 bx10 bx7 bx17 kB5 b6 bx19 b3 bx9 bx8 bx1 bx3 bx5 kB4 bx2 kB1 bx4 kB2 bx6 kB3 bx18 bx11 bx13 bx15 kB9 bx12 kB6 bx14 kB7 bx16 kB8 Ol10 f7 ge9 f8 f9 f10 f11 f12 f13 f14 f15 ne5 f16 gebx1 f17 ne6 ne7 (Ne.symm ne5) f18 gebx3 f19 ne8 ne9 ne10 (Ne.symm ne6) f20 gebx5 f21 f22 f23 ne11 ne12 ne13 ne14 (Ne.symm ne8) f24 gebx11 f25 ne15 ne16 ne17 ne18 ne19 (Ne.symm ne11) f26 gebx13 f27 ne20 ne21 ne22 ne23 ne24 ne25 (Ne.symm ne15) f28 gebx15 (Ne.symm ne25) (Ne.symm ne9) (Ne.symm ne7) (Ne.symm ne18) (Ne.symm ne14) (Ne.symm ne24) (Ne.symm ne10) (Ne.symm ne17) (Ne.symm ne13) (Ne.symm ne23) (Ne.symm ne16) (Ne.symm ne12) (Ne.symm ne22) (Ne.symm ne19) (Ne.symm ne21) (Ne.symm ne20) ne26 ne27 ne28 ne29 ne30 ne31 ne32 ne33 ne34 ne35 ne36 ne37 ne38 ne39 ne40 ne41 ne42 ne43 ne44 ne45 ne46 ne47 ne48 ne49 ne50 ne51 ne52 ne53 ne54 ne55 ne56 ne57 ne58 ne59 ne60 ne61 ne62 ne63 ne64 ne65 ne66 ne67 ne68 ne69 ne70 ne71 ne72 ne73 ne74 ne75 ne76 ne77 ne78 ne79 ne80 ne81 ne82 ne83 ne84 ne85 ne86 ne87 ne88 ne89 ne90 ne91 ne92 ne93 ne94 ne95 ne96 ne97 ne98 ne99 ne100 ne101 ne102 ne103 ne104 ne105 ne106 ne107 ne108 ne109 ne110 ne111 ne112 ne113 ne114 ne115 ne116 ne117 ne118 ne119 ne120 ne121 ne122 ne123) e10 rfl rfl rfl (lenOf pd_17 rfl) rfl at_187 (by decide) ?_
  rintro T11 v11 L11 X11 ⟨bx20, bx21, bx22, bx23, bx24, bx25, bx26, bx27, bx28, bx29, bx30, kB10, kB11, rfl, N11q, Kc11, lz11_0, lz11_1, lz11_2, lz11_3, lz11_4, lz11_5, lz11_6, lz11_7, lz11_8, lz11_9, lz11_10, g30, g31, g32, g33, g34, g35, g36, g37, g38, g39, g40, g41, g42, g43, g44, g45, g46, g47, g48, g49, g50, g51⟩
  have N11 := Fr.app N8 N11q
  have gebx20 := Nat.le_trans Ol10.2.1 lz11_0
  have lkbx20 : b9 < bx20 := Nat.lt_of_lt_of_le f7.lt lz11_0
  have so22 := so21.cons lkbx20
  have gebx21 := Nat.le_trans gebx20 (Nat.le_of_lt lz11_1)
  have so23 := so22.cons lz11_1
  have gebx22 := Nat.le_trans gebx21 (Nat.le_of_lt lz11_2)
  have so24 := so23.cons lz11_2
  have gebx23 := Nat.le_trans gebx22 (Nat.le_of_lt lz11_3)
  have so25 := so24.cons lz11_3
  have gebx24 := Nat.le_trans gebx23 (Nat.le_of_lt lz11_4)
  have so26 := so25.cons lz11_4
  have gebx25 := Nat.le_trans gebx24 (Nat.le_of_lt lz11_5)
  have so27 := so26.cons lz11_5
  have gebx26 := Nat.le_trans gebx25 (Nat.le_of_lt lz11_6)
  have so28 := so27.cons lz11_6
  have gebx27 := Nat.le_trans gebx26 (Nat.le_of_lt lz11_7)
  have so29 := so28.cons lz11_7
  have gebx28 := Nat.le_trans gebx27 (Nat.le_of_lt lz11_8)
  have so30 := so29.cons lz11_8
  have gebx29 := Nat.le_trans gebx28 (Nat.le_of_lt lz11_9)
  have so31 := so30.cons lz11_9
  have gebx30 := Nat.le_trans gebx29 (Nat.le_of_lt lz11_10)
  have so32 := so31.cons lz11_10
  have Ol11 := Ol10.keep Kc11 (allS ge9 (allS gebx1 (allS gebx3 (allS gebx5 (allS gebx11 (allS gebx13 (allS gebx15 all0)))))))
  show Go _ _ _ _ _ (mkF _ _ _ [.ref b9])
  refine G26 X11 K (L' := #[vi p0, vi p1, vi p2, vi p3, vi fl4, vi fl5, vi fl6, vi fl7, vi fl8, vi fl9, vi fl10, vi sh, vi ii, vi jj, vi ea, vi eb, vr b1, vr b9, un, un, un, un, un]) at_190 rfl rfl ?_
  refine G27 X11 K (tw H 473 rfl) (w474 H) (w475 H) rfl at_192 (by decide) (by decide) ?_
  intro T12 h12 b12 X12 e12 E12 z12 A12 D12
  have ge12 : (ζ Z) ≤ b12 := Nat.le_trans Ol11.2.1 (Nat.le_of_eq z12)
  have lk12 : bx30 < b12 := Nat.lt_of_lt_of_eq g51.lt z12
  have so33 := so32.cons lk12
  have Ol12 := Ol11.ext E12
  have O12 := Ω10.new H A12 D12
  refine G9 X12 K at_195 rfl ?_
  refine G7 X12 K at_196 rfl rfl ?_
  have f29 := (g30.ext E12)
  have f30 := (g39.ext E12)
  have f31 := (g40.ext E12)
  have ne124 := so33.ne 12 0 rfl rfl rfl
  have ne125 := so33.ne 9 0 rfl rfl rfl
  have ne126 := so33.ne 8 0 rfl rfl rfl
  refine G23 X12 K (W := 1) rfl (tw H 476 rfl) (tw H 477 rfl) (w475 H) (tw H 478 rfl) (by decide) (rm62_151 H b12 b9 bx20 bx21 b10 bx22 bx23 bx7 bx17 bx1 bx3 bx5 bx11 bx13 bx15 kB10 Ol12 O12 ge12 f29 f30 gebx17 f31 ne124 ne125 ne126) e12 rfl rfl rfl (lenOf pd_39 rfl) rfl at_198 (by decide) ?_
  rintro T13 v13 L13 X13 ⟨bx31, bx32, bx33, bx34, bx35, kB12, kB13, kB14, kB15, rfl, N13q, Kc13, lz13_0, lz13_1, lz13_2, lz13_3, lz13_4, g52, g53, g54, g55, g56, g57⟩
  have N13 := Fr.app N11 N13q
  have gebx31 := Nat.le_trans Ol12.2.1 lz13_0
  have lkbx31 : b12 < bx31 := Nat.lt_of_lt_of_le O12.lt lz13_0
  have so34 := so33.cons lkbx31
  have gebx32 := Nat.le_trans gebx31 (Nat.le_of_lt lz13_1)
  have so35 := so34.cons lz13_1
  have gebx33 := Nat.le_trans gebx32 (Nat.le_of_lt lz13_2)
  have so36 := so35.cons lz13_2
  have gebx34 := Nat.le_trans gebx33 (Nat.le_of_lt lz13_3)
  have so37 := so36.cons lz13_3
  have gebx35 := Nat.le_trans gebx34 (Nat.le_of_lt lz13_4)
  have so38 := so37.cons lz13_4
  have Ol13 := Ol12.keep Kc13 (allS ge12 all0)
  show Go _ _ _ _ _ (mkF _ _ _ [.ref b12])
  refine G26 X13 K (L' := #[vi p0, vi p1, vi p2, vi p3, vi fl4, vi fl5, vi fl6, vi fl7, vi fl8, vi fl9, vi fl10, vi sh, vi ii, vi jj, vi ea, vi eb, vr b1, vr b9, vr b12, un, un, un, un]) at_201 rfl rfl ?_
  have fz1 : Arv Z T13.heap bx32 kB12 .byte 36 z36 (.int 0) := g54
  have fz2 : Arv Z T13.heap bx33 kB13 .int 36 z36 (.int 0) := g55
  have fz3 : Arv Z T13.heap bx34 kB14 .int 12 p12 (.int 0) := g56
  have fz4 : Arv Z T13.heap bx35 kB15 .long 12 o12 (.long 0) := g57
  have key : ∀ (Tk : State) (hh : Heap) (ll : List Loc) (vv sv : List Value) (sP sQ : Int32), Stand p l e room_1 (s.setVm vm10) m #[.int p0, .int p1, .int p2, .int p3] below meth c Tk ll 128 3776 → Tk.heap = hh → Fr (ζ Z) ll → Old Z (ζ Z) hh → k10 ≤ hh.size → Ω10 Z hh b12 (.ref bx31) (.ref b9) (.int 3) (.int 2) (.int 6) (.ref bx32) (.ref bx33) (.ref bx34) (.ref bx35) (.int 9) (.int 2147483647) (.int 2147483647) → Arv Z hh bx32 kB12 .byte 36 vv (.int 0) → Arv Z hh bx33 kB13 .int 36 sv (.int 0) → Rd vv fl4 fl5 ea eb bP bQ (vl fl7) (vl fl8) → Rd sv fl4 fl5 ea eb bP bQ sP sQ → Go p e below (DoneW s below (fun v h L => v = some (.int 1) ∧ Fr (ζ Z) L) room_1.cells room_1.slots) Tk (mkF m 373 #[.val (.int p0), .val (.int p1), .val (.int p2), .val (.int p3), .val (.int fl4), .val (.int fl5), .val (.int fl6), .val (.int fl7), .val (.int fl8), .val (.int fl9), .val (.int fl10), .val (.int sh), .val (.int ii), .val (.int jj), .val (.int ea), .val (.int eb), .val (.ref b1), .val (.ref b9), .val (.ref b12), .val (.int sP), .val (.int sQ), .unset, .unset] []) := by
    intro Tk hh ll vv sv sP sQ Xk ek Nk Olk hkk Bk Ak Sk rv rs
    unfold Rd at rv rs
    obtain ⟨zv, hzv⟩ : ∃ z, (if fl4 ≠ 0 ∧ ea = 0 ∧ eb = bP then vl fl7 else if fl5 ≠ 0 ∧ ea = 1 ∧ eb = bQ then vl fl8 else 0) = z := ⟨_, rfl⟩
    obtain ⟨zs, hzs⟩ : ∃ z, (if fl4 ≠ 0 ∧ ea = 0 ∧ eb = bP then sP else if fl5 ≠ 0 ∧ ea = 1 ∧ eb = bQ then sQ else 0) = z := ⟨_, rfl⟩
    rw [hzv] at rv
    rw [hzs] at rs
    have rzv := rv
    have rzs := rs
    have kb : ∀ x1 xx : Int32, (if fl4 ≠ 0 ∧ ea = 0 ∧ eb = bP ∧ fl7 = fl10 then sP else 2147483647) = x1 → (if fl5 ≠ 0 ∧ ea = 1 ∧ eb = bQ ∧ fl8 = fl10 then sQ else x1) = xx → Go p e below (DoneW s below (fun v h L => v = some (.int 1) ∧ Fr (ζ Z) L) room_1.cells room_1.slots) Tk (mkF m 438 #[.val (.int p0), .val (.int p1), .val (.int p2), .val (.int p3), .val (.int fl4), .val (.int fl5), .val (.int fl6), .val (.int fl7), .val (.int fl8), .val (.int fl9), .val (.int fl10), .val (.int sh), .val (.int ii), .val (.int jj), .val (.int ea), .val (.int eb), .val (.ref b1), .val (.ref b9), .val (.ref b12), .val (.int sP), .val (.int sQ), .val (.int xx), .unset] []) := by
      intro x1 xx hx1 hxx
      refine G4 Xk K at_438 rfl ?_
      by_cases hc1 : fl9 = 0
      · refine G15 457 Xk K at_440 (teq hc1).1 (by decide) (by decide) ?_
        refine G7 Xk K at_457 rfl rfl ?_
        refine G4 Xk K at_459 rfl ?_
        refine G4 Xk K at_461 rfl ?_
        refine G4 Xk K at_463 rfl ?_
        refine G8 Xk K (W := 0) (tw H 542 rfl) (tw H 543 rfl) (nf_self K (tw H 545 rfl)) (tw H 545 rfl) (tw H 544 rfl) (w475 H) (tw H 546 rfl) (by decide) (rm70_153 H b12 ea eb fl10 bx31 b9 bx32 bx33 bx34 bx35 vv kB12 zv sv kB13 zs Olk (cl_ce clE).1 Bk Ak rzv (cl_ce clE).2.2.1 Sk rzs) ek Bk.1 rfl rfl rfl (lenOf pd_40 rfl) rfl at_465 (by decide) ?_
        rintro T14 v14 L14 X14 (⟨hc2, rfl, N14q, e14⟩ | ⟨hc3, rfl, N14q, e14⟩)
        · have N14 := Fr.app Nk N14q
          show Go _ _ _ _ _ (mkF _ _ _ [.int zs])
          refine G12 X14 K (L' := #[vi p0, vi p1, vi p2, vi p3, vi fl4, vi fl5, vi fl6, vi fl7, vi fl8, vi fl9, vi fl10, vi sh, vi ii, vi jj, vi ea, vi eb, vr b1, vr b9, vr b12, vi sP, vi sQ, vi xx, vi zs]) at_468 rfl ?_
          refine G4 X14 K at_470 rfl ?_
          refine G4 X14 K at_472 rfl ?_
          refine G10 X14 K at_474 (teq (fin1 (fl01 hfl7) (fl01 hfl8) (fl01 hfl10) hzv hzs hx1 hxx hc2)).2 ?_
          refine G3 X14 K (v := 1) at_477 (by decide) ?_
          refine G6 482 X14 K at_478 (by decide) (by decide) ?_
          refine G69 X14 K hS10 (by rw [e14]; exact hkk) (by simp) (z' := 1) (by decide) at_482 (by decide) (by decide) ?_
          exact ⟨rfl, N14⟩
        · have N14 := Fr.app Nk N14q
          show Go _ _ _ _ _ (mkF _ _ _ [.int 2147483647])
          refine G12 X14 K (L' := #[vi p0, vi p1, vi p2, vi p3, vi fl4, vi fl5, vi fl6, vi fl7, vi fl8, vi fl9, vi fl10, vi sh, vi ii, vi jj, vi ea, vi eb, vr b1, vr b9, vr b12, vi sP, vi sQ, vi xx, vi 2147483647]) at_468 rfl ?_
          refine G4 X14 K at_470 rfl ?_
          refine G4 X14 K at_472 rfl ?_
          refine G10 X14 K at_474 (teq (fin2 hzv hx1 hxx hc3)).2 ?_
          refine G3 X14 K (v := 1) at_477 (by decide) ?_
          refine G6 482 X14 K at_478 (by decide) (by decide) ?_
          refine G69 X14 K hS10 (by rw [e14]; exact hkk) (by simp) (z' := 1) (by decide) at_482 (by decide) (by decide) ?_
          exact ⟨rfl, N14⟩
      · refine G11 Xk K at_440 (feq hc1).1 ?_
        refine G7 Xk K at_443 rfl rfl ?_
        refine G4 Xk K at_445 rfl ?_
        refine G4 Xk K at_447 rfl ?_
        refine G4 Xk K at_449 rfl ?_
        refine G8 Xk K (W := 0) (tw H 542 rfl) (tw H 543 rfl) (nf_self K (tw H 545 rfl)) (tw H 545 rfl) (tw H 544 rfl) (w475 H) (tw H 546 rfl) (by decide) (rm70_155 H b12 eb ea fl10 bx31 b9 bx32 bx33 bx34 bx35 vv kB12 zv sv kB13 zs Olk (cl_ce clE).2.1 Bk Ak rzv (cl_ce clE).2.2.1 Sk rzs) ek Bk.1 rfl rfl rfl (lenOf pd_40 rfl) rfl at_451 (by decide) ?_
        rintro T15 v15 L15 X15 (⟨hc4, rfl, N15q, e15⟩ | ⟨hc5, rfl, N15q, e15⟩)
        · have N15 := Fr.app Nk N15q
          show Go _ _ _ _ _ (mkF _ _ _ [.int zs])
          refine G6 468 X15 K at_454 (by decide) (by decide) ?_
          refine G12 X15 K (L' := #[vi p0, vi p1, vi p2, vi p3, vi fl4, vi fl5, vi fl6, vi fl7, vi fl8, vi fl9, vi fl10, vi sh, vi ii, vi jj, vi ea, vi eb, vr b1, vr b9, vr b12, vi sP, vi sQ, vi xx, vi zs]) at_468 rfl ?_
          refine G4 X15 K at_470 rfl ?_
          refine G4 X15 K at_472 rfl ?_
          refine G10 X15 K at_474 (teq (fin1 (fl01 hfl7) (fl01 hfl8) (fl01 hfl10) hzv hzs hx1 hxx hc4)).2 ?_
          refine G3 X15 K (v := 1) at_477 (by decide) ?_
          refine G6 482 X15 K at_478 (by decide) (by decide) ?_
          refine G69 X15 K hS10 (by rw [e15]; exact hkk) (by simp) (z' := 1) (by decide) at_482 (by decide) (by decide) ?_
          exact ⟨rfl, N15⟩
        · have N15 := Fr.app Nk N15q
          show Go _ _ _ _ _ (mkF _ _ _ [.int 2147483647])
          refine G6 468 X15 K at_454 (by decide) (by decide) ?_
          refine G12 X15 K (L' := #[vi p0, vi p1, vi p2, vi p3, vi fl4, vi fl5, vi fl6, vi fl7, vi fl8, vi fl9, vi fl10, vi sh, vi ii, vi jj, vi ea, vi eb, vr b1, vr b9, vr b12, vi sP, vi sQ, vi xx, vi 2147483647]) at_468 rfl ?_
          refine G4 X15 K at_470 rfl ?_
          refine G4 X15 K at_472 rfl ?_
          refine G10 X15 K at_474 (teq (fin2 hzv hx1 hxx hc5)).2 ?_
          refine G3 X15 K (v := 1) at_477 (by decide) ?_
          refine G6 482 X15 K at_478 (by decide) (by decide) ?_
          refine G69 X15 K hS10 (by rw [e15]; exact hkk) (by simp) (z' := 1) (by decide) at_482 (by decide) (by decide) ?_
          exact ⟨rfl, N15⟩
    have ka : ∀ x1 : Int32, (if fl4 ≠ 0 ∧ ea = 0 ∧ eb = bP ∧ fl7 = fl10 then sP else 2147483647) = x1 → Go p e below (DoneW s below (fun v h L => v = some (.int 1) ∧ Fr (ζ Z) L) room_1.cells room_1.slots) Tk (mkF m 407 #[.val (.int p0), .val (.int p1), .val (.int p2), .val (.int p3), .val (.int fl4), .val (.int fl5), .val (.int fl6), .val (.int fl7), .val (.int fl8), .val (.int fl9), .val (.int fl10), .val (.int sh), .val (.int ii), .val (.int jj), .val (.int ea), .val (.int eb), .val (.ref b1), .val (.ref b9), .val (.ref b12), .val (.int sP), .val (.int sQ), .val (.int x1), .unset] []) := by
      intro x1 hx1
      refine G4 Xk K at_407 rfl ?_
      by_cases hc6 : fl5 = 0
      · refine G15 438 Xk K at_409 (teq hc6).1 (by decide) (by decide) ?_
        exact kb _ _ hx1 (if_neg fun q => q.1 hc6)
      · refine G11 Xk K at_409 (feq hc6).1 ?_
        refine G4 Xk K at_412 rfl ?_
        refine G3 Xk K (v := 1) at_414 (by decide) ?_
        by_cases hc7 : ea = 1
        · refine G10 Xk K at_415 (teq hc7).2 ?_
          refine G4 Xk K at_418 rfl ?_
          refine G3 Xk K (v := 3) at_420 (by decide) ?_
          refine G4 Xk K at_421 rfl ?_
          refine G16 Xk K (z := bQ) at_423 hbQ ?_
          by_cases hc8 : eb = bQ
          · refine G10 Xk K at_424 (teq hc8).2 ?_
            refine G4 Xk K at_427 rfl ?_
            refine G4 Xk K at_429 rfl ?_
            by_cases hc9 : fl8 = fl10
            · refine G10 Xk K at_431 (teq hc9).2 ?_
              refine G4 Xk K at_434 rfl ?_
              refine G12 Xk K (L' := #[vi p0, vi p1, vi p2, vi p3, vi fl4, vi fl5, vi fl6, vi fl7, vi fl8, vi fl9, vi fl10, vi sh, vi ii, vi jj, vi ea, vi eb, vr b1, vr b9, vr b12, vi sP, vi sQ, vi sQ, un]) at_436 rfl ?_
              exact kb _ _ hx1 (if_pos ⟨hc6, hc7, hc8, hc9⟩)
            · refine G19 438 Xk K at_431 (feq hc9).2 (by decide) (by decide) ?_
              exact kb _ _ hx1 (if_neg fun q => hc9 q.2.2.2)
          · refine G19 438 Xk K at_424 (feq hc8).2 (by decide) (by decide) ?_
            exact kb _ _ hx1 (if_neg fun q => hc8 q.2.2.1)
        · refine G19 438 Xk K at_415 (feq hc7).2 (by decide) (by decide) ?_
          exact kb _ _ hx1 (if_neg fun q => hc7 q.2.1)
    refine G50 Xk K (tw H 0 rfl) at_373 ?_
    refine G12 Xk K (L' := #[vi p0, vi p1, vi p2, vi p3, vi fl4, vi fl5, vi fl6, vi fl7, vi fl8, vi fl9, vi fl10, vi sh, vi ii, vi jj, vi ea, vi eb, vr b1, vr b9, vr b12, vi sP, vi sQ, vi 2147483647, un]) at_375 rfl ?_
    refine G4 Xk K at_377 rfl ?_
    by_cases hc10 : fl4 = 0
    · refine G15 407 Xk K at_379 (teq hc10).1 (by decide) (by decide) ?_
      exact ka _ (if_neg fun q => q.1 hc10)
    · refine G11 Xk K at_379 (feq hc10).1 ?_
      refine G4 Xk K at_382 rfl ?_
      by_cases hc11 : ea = 0
      · refine G11 Xk K at_384 (teq hc11).2 ?_
        refine G4 Xk K at_387 rfl ?_
        refine G3 Xk K (v := 3) at_389 (by decide) ?_
        refine G4 Xk K at_390 rfl ?_
        refine G16 Xk K (z := bP) at_392 hbP ?_
        by_cases hc12 : eb = bP
        · refine G10 Xk K at_393 (teq hc12).2 ?_
          refine G4 Xk K at_396 rfl ?_
          refine G4 Xk K at_398 rfl ?_
          by_cases hc13 : fl7 = fl10
          · refine G10 Xk K at_400 (teq hc13).2 ?_
            refine G4 Xk K at_403 rfl ?_
            refine G12 Xk K (L' := #[vi p0, vi p1, vi p2, vi p3, vi fl4, vi fl5, vi fl6, vi fl7, vi fl8, vi fl9, vi fl10, vi sh, vi ii, vi jj, vi ea, vi eb, vr b1, vr b9, vr b12, vi sP, vi sQ, vi sP, un]) at_405 rfl ?_
            exact ka _ (if_pos ⟨hc10, hc11, hc12, hc13⟩)
          · refine G19 407 Xk K at_400 (feq hc13).2 (by decide) (by decide) ?_
            exact ka _ (if_neg fun q => hc13 q.2.2.2)
        · refine G19 407 Xk K at_393 (feq hc12).2 (by decide) (by decide) ?_
          exact ka _ (if_neg fun q => hc12 q.2.2.1)
      · refine G15 407 Xk K at_384 (feq hc11).2 (by decide) (by decide) ?_
        exact ka _ (if_neg fun q => hc11 q.2.1)
  refine G4 X13 K at_203 rfl ?_
  by_cases hc14 : fl6 = 0
  · refine G15 255 X13 K at_205 (teq hc14).1 (by decide) (by decide) ?_
    refine G4 X13 K at_255 rfl ?_
    by_cases hc15 : fl4 = 0
    · refine G15 277 X13 K at_257 (teq hc15).1 (by decide) (by decide) ?_
      refine G4 X13 K at_277 rfl ?_
      by_cases hc16 : fl5 = 0
      · refine G15 299 X13 K at_279 (teq hc16).1 (by decide) (by decide) ?_
        refine G4 X13 K at_299 rfl ?_
        refine G15 340 X13 K at_301 (teq hc14).1 (by decide) (by decide) ?_
        refine G4 X13 K at_340 rfl ?_
        refine G15 349 X13 K at_342 (teq hc15).1 (by decide) (by decide) ?_
        refine G3 X13 K (v := 0) at_349 (by decide) ?_
        refine G12 X13 K (L' := #[vi p0, vi p1, vi p2, vi p3, vi fl4, vi fl5, vi fl6, vi fl7, vi fl8, vi fl9, vi fl10, vi sh, vi ii, vi jj, vi ea, vi eb, vr b1, vr b9, vr b12, vi 0, un, un, un]) at_350 rfl ?_
        refine G4 X13 K at_352 rfl ?_
        refine G15 370 X13 K at_354 (teq hc16).1 (by decide) (by decide) ?_
        refine G3 X13 K (v := 0) at_370 (by decide) ?_
        refine G12 X13 K (L' := #[vi p0, vi p1, vi p2, vi p3, vi fl4, vi fl5, vi fl6, vi fl7, vi fl8, vi fl9, vi fl10, vi sh, vi ii, vi jj, vi ea, vi eb, vr b1, vr b9, vr b12, vi 0, vi 0, un, un]) at_371 rfl ?_
        exact key _ _ _ z36 z36 0 0 (st_up X13 (by decide) (by decide)) rfl N13 Ol13 (Nat.le_trans (Nat.le_trans (Nat.le_trans hk10 Kc11.1) (Keep.ofE E12).1) Kc13.1) g52 fz1 fz2 (rdN clE hc15 hc16) (rdN clE hc15 hc16)
      · refine G11 X13 K at_279 (feq hc16).1 ?_
        refine G7 X13 K at_282 rfl rfl ?_
        refine G3 X13 K (v := aQ) at_284 ((by decide : Int32.ofInt 1 = 1).trans haQ) ?_
        refine G3 X13 K (v := 3) at_285 (by decide) ?_
        refine G4 X13 K at_286 rfl ?_
        refine G16 X13 K (z := bQ) at_288 hbQ ?_
        refine G4 X13 K at_289 rfl ?_
        refine G28 X13 K at_291 ?_
        refine G28 X13 K at_292 ?_
        refine G3 X13 K (v := 0) at_293 (by decide) ?_
        refine G35 X13 K (cap := 0) (ty := .int) (vs := []) (w516 H) rfl rfl at_294 (by decide) (by decide) rfl (by decide) (by decide) (by decide) ?_
        intro T16 h16 b16 kA16 X16 e16 E16 z16 A16
        have ge16 : (ζ Z) ≤ b16 := Nat.le_trans Ol13.2.1 (Nat.le_of_eq z16)
        have lk16 : bx35 < b16 := Nat.lt_of_lt_of_eq fz4.lt z16
        have so39 := so38.cons lk16
        have Ol16 := Ol13.ext E16
        have f32 := (g52.ext E16)
        have f33 := (fz1.ext E16)
        have f34 := (fz2.ext E16)
        have f35 := (fz3.ext E16)
        have f36 := (fz4.ext E16)
        have f37 := (g53.ext E16)
        have f38 := ((f29.keep Kc13 (so39.nin 18 [6] rfl rfl rfl)).ext E16)
        have f39 := ((f30.keep Kc13 (so39.nin 15 [6] rfl rfl rfl)).ext E16)
        have ne127 := so39.ne 4 5 rfl rfl rfl
        have ne128 := so39.ne 3 5 rfl rfl rfl
        have ne129 := so39.ne 3 4 rfl rfl rfl
        have ne130 := so39.ne 1 5 rfl rfl rfl
        have ne131 := so39.ne 1 4 rfl rfl rfl
        have ne132 := so39.ne 1 3 rfl rfl rfl
        have ne133 := so39.ne 6 1 rfl rfl rfl
        have ne134 := so39.ne 2 1 rfl rfl rfl
        have ne135 := so39.ne 2 3 rfl rfl rfl
        have ne136 := so39.ne 2 4 rfl rfl rfl
        have ne137 := so39.ne 2 5 rfl rfl rfl
        have ne138 := so39.ne 6 5 rfl rfl rfl
        have ne139 := so39.ne 6 2 rfl rfl rfl
        have ne140 := so39.ne 6 3 rfl rfl rfl
        have ne141 := so39.ne 6 4 rfl rfl rfl
        have ne142 := so39.ne 15 5 rfl rfl rfl
        have ne143 := so39.ne 15 1 rfl rfl rfl
        have ne144 := so39.ne 15 2 rfl rfl rfl
        have ne145 := so39.ne 15 3 rfl rfl rfl
        have ne146 := so39.ne 15 4 rfl rfl rfl
        have ne147 := so39.ne 0 5 rfl rfl rfl
        have ne148 := so39.ne 0 1 rfl rfl rfl
        have ne149 := so39.ne 0 2 rfl rfl rfl
        have ne150 := so39.ne 0 3 rfl rfl rfl
        have ne151 := so39.ne 0 4 rfl rfl rfl
        have ne152 := so39.ne 18 5 rfl rfl rfl
        have ne153 := so39.ne 18 1 rfl rfl rfl
        have ne154 := so39.ne 18 2 rfl rfl rfl
        have ne155 := so39.ne 18 3 rfl rfl rfl
        have ne156 := so39.ne 18 4 rfl rfl rfl
        refine G8 X16 K (W := 0) (w552 H) (w553 H) (nf_self K (w555 H)) (w555 H) (w554 H) (w475 H) (w556 H) (by decide) (rm72_183 H b12 aQ bQ fl8 b16 bx31 b9 bx32 bx33 bx34 bx35 z36 kB12 z36 kB13 p12 kB14 o12 kB15 kA16 bx20 bx21 b10 bx22 bx23 bx7 bx17 Ol16 f32 f33 f34 f35 f36 (gs0 clQ) (fl01 hfl8) f37 A16 f38 f39 gebx31 ne127 gebx32 ne128 ne129 gebx33 gebx17 ne130 ne131 ne132 gebx35 ne133 (Ne.symm ne130) (Ne.symm ne128) (Ne.symm ne127) (Ne.symm ne129) (Ne.symm ne131) (Ne.symm ne132) ne134 ne135 ne136 ne137 gebx34 (Ne.symm ne137) (Ne.symm ne136) (Ne.symm ne135) (Ne.symm ne134) ne138 ne139 ne140 ne141 ne142 ne143 ne144 ne145 ne146 ne147 ne148 ne149 ne150 ne151 ne152 ne153 ne154 ne155 ne156) e16 f32.1 rfl rfl rfl (lenOf pd_51 rfl) rfl at_296 (by decide) ?_
        rintro T17 v17 L17 X17 ⟨r1, r2, bx36, kB16, bx37, hc17, hc18, rfl, N17q, Kc17, lz17_0, g58, g59, g60, g61, g62, g63, g64, g65⟩
        have N17 := Fr.app N13 N17q
        have gebx36 := Nat.le_trans Ol16.2.1 lz17_0
        have lkbx36 : b16 < bx36 := Nat.lt_of_lt_of_le A16.lt lz17_0
        have so40 := so39.cons lkbx36
        have Ol17 := Ol16.keep Kc17 (allS gebx32 (allS gebx33 (allS gebx34 (allS gebx35 (allS gebx31 all0)))))
        show Go _ _ _ _ _ (mkF _ _ _ [])
        refine G4 X17 K at_299 rfl ?_
        refine G15 340 X17 K at_301 (teq hc14).1 (by decide) (by decide) ?_
        refine G4 X17 K at_340 rfl ?_
        refine G15 349 X17 K at_342 (teq hc15).1 (by decide) (by decide) ?_
        refine G3 X17 K (v := 0) at_349 (by decide) ?_
        refine G12 X17 K (L' := #[vi p0, vi p1, vi p2, vi p3, vi fl4, vi fl5, vi fl6, vi fl7, vi fl8, vi fl9, vi fl10, vi sh, vi ii, vi jj, vi ea, vi eb, vr b1, vr b9, vr b12, vi 0, un, un, un]) at_350 rfl ?_
        refine G4 X17 K at_352 rfl ?_
        refine G11 X17 K at_354 (feq hc16).1 ?_
        refine G4 X17 K at_357 rfl ?_
        refine G15 366 X17 K at_359 (teq hc15).1 (by decide) (by decide) ?_
        refine G3 X17 K (v := 1) at_366 (by decide) ?_
        refine G6 371 X17 K at_367 (by decide) (by decide) ?_
        refine G12 X17 K (L' := #[vi p0, vi p1, vi p2, vi p3, vi fl4, vi fl5, vi fl6, vi fl7, vi fl8, vi fl9, vi fl10, vi sh, vi ii, vi jj, vi ea, vi eb, vr b1, vr b9, vr b12, vi 0, vi 1, un, un]) at_371 rfl ?_
        have f40 := (f32.keep Kc17 (so40.nin 7 [5, 4, 3, 2, 6] rfl rfl rfl))
        exact key _ _ _ (z36.set ((aQ * 6) + bQ).toNatClampNeg (.int (vl fl8))) (z36.set ((aQ * 6) + bQ).toNatClampNeg (.int 1)) 0 1 (st_up X17 (by decide) (by decide)) rfl N17 Ol17 (Nat.le_trans (Nat.le_trans (Nat.le_trans (Nat.le_trans (Nat.le_trans hk10 Kc11.1) (Keep.ofE E12).1) Kc13.1) (Keep.ofE E16).1) Kc17.1) f40 g58 g59 (rdQ clE clQ haQ hc15 hc16) (rdQ clE clQ haQ hc15 hc16)
    · refine G11 X13 K at_257 (feq hc15).1 ?_
      refine G7 X13 K at_260 rfl rfl ?_
      refine G3 X13 K (v := aP) at_262 ((by decide : Int32.ofInt 0 = 0).trans haP) ?_
      refine G3 X13 K (v := 3) at_263 (by decide) ?_
      refine G4 X13 K at_264 rfl ?_
      refine G16 X13 K (z := bP) at_266 hbP ?_
      refine G4 X13 K at_267 rfl ?_
      refine G28 X13 K at_269 ?_
      refine G28 X13 K at_270 ?_
      refine G3 X13 K (v := 0) at_271 (by decide) ?_
      refine G35 X13 K (cap := 0) (ty := .int) (vs := []) (w516 H) rfl rfl at_272 (by decide) (by decide) rfl (by decide) (by decide) (by decide) ?_
      intro T18 h18 b18 kA18 X18 e18 E18 z18 A18
      have ge18 : (ζ Z) ≤ b18 := Nat.le_trans Ol13.2.1 (Nat.le_of_eq z18)
      have lk18 : bx35 < b18 := Nat.lt_of_lt_of_eq fz4.lt z18
      have so41 := so38.cons lk18
      have Ol18 := Ol13.ext E18
      have f41 := (g52.ext E18)
      have f42 := (fz1.ext E18)
      have f43 := (fz2.ext E18)
      have f44 := (fz3.ext E18)
      have f45 := (fz4.ext E18)
      have f46 := (g53.ext E18)
      have f47 := ((f29.keep Kc13 (so41.nin 18 [6] rfl rfl rfl)).ext E18)
      have f48 := ((f30.keep Kc13 (so41.nin 15 [6] rfl rfl rfl)).ext E18)
      have ne157 := so41.ne 4 5 rfl rfl rfl
      have ne158 := so41.ne 3 5 rfl rfl rfl
      have ne159 := so41.ne 3 4 rfl rfl rfl
      have ne160 := so41.ne 1 5 rfl rfl rfl
      have ne161 := so41.ne 1 4 rfl rfl rfl
      have ne162 := so41.ne 1 3 rfl rfl rfl
      have ne163 := so41.ne 6 1 rfl rfl rfl
      have ne164 := so41.ne 2 1 rfl rfl rfl
      have ne165 := so41.ne 2 3 rfl rfl rfl
      have ne166 := so41.ne 2 4 rfl rfl rfl
      have ne167 := so41.ne 2 5 rfl rfl rfl
      have ne168 := so41.ne 6 5 rfl rfl rfl
      have ne169 := so41.ne 6 2 rfl rfl rfl
      have ne170 := so41.ne 6 3 rfl rfl rfl
      have ne171 := so41.ne 6 4 rfl rfl rfl
      have ne172 := so41.ne 15 5 rfl rfl rfl
      have ne173 := so41.ne 15 1 rfl rfl rfl
      have ne174 := so41.ne 15 2 rfl rfl rfl
      have ne175 := so41.ne 15 3 rfl rfl rfl
      have ne176 := so41.ne 15 4 rfl rfl rfl
      have ne177 := so41.ne 0 5 rfl rfl rfl
      have ne178 := so41.ne 0 1 rfl rfl rfl
      have ne179 := so41.ne 0 2 rfl rfl rfl
      have ne180 := so41.ne 0 3 rfl rfl rfl
      have ne181 := so41.ne 0 4 rfl rfl rfl
      have ne182 := so41.ne 18 5 rfl rfl rfl
      have ne183 := so41.ne 18 1 rfl rfl rfl
      have ne184 := so41.ne 18 2 rfl rfl rfl
      have ne185 := so41.ne 18 3 rfl rfl rfl
      have ne186 := so41.ne 18 4 rfl rfl rfl
      refine G8 X18 K (W := 0) (w552 H) (w553 H) (nf_self K (w555 H)) (w555 H) (w554 H) (w475 H) (w556 H) (by decide) (rm72_183 H b12 aP bP fl7 b18 bx31 b9 bx32 bx33 bx34 bx35 z36 kB12 z36 kB13 p12 kB14 o12 kB15 kA18 bx20 bx21 b10 bx22 bx23 bx7 bx17 Ol18 f41 f42 f43 f44 f45 (gs0 clP) (fl01 hfl7) f46 A18 f47 f48 gebx31 ne157 gebx32 ne158 ne159 gebx33 gebx17 ne160 ne161 ne162 gebx35 ne163 (Ne.symm ne160) (Ne.symm ne158) (Ne.symm ne157) (Ne.symm ne159) (Ne.symm ne161) (Ne.symm ne162) ne164 ne165 ne166 ne167 gebx34 (Ne.symm ne167) (Ne.symm ne166) (Ne.symm ne165) (Ne.symm ne164) ne168 ne169 ne170 ne171 ne172 ne173 ne174 ne175 ne176 ne177 ne178 ne179 ne180 ne181 ne182 ne183 ne184 ne185 ne186) e18 f41.1 rfl rfl rfl (lenOf pd_51 rfl) rfl at_274 (by decide) ?_
      rintro T19 v19 L19 X19 ⟨r3, r4, bx38, kB17, bx39, hc19, hc20, rfl, N19q, Kc19, lz19_0, g66, g67, g68, g69, g70, g71, g72, g73⟩
      have N19 := Fr.app N13 N19q
      have gebx38 := Nat.le_trans Ol18.2.1 lz19_0
      have lkbx38 : b18 < bx38 := Nat.lt_of_lt_of_le A18.lt lz19_0
      have so42 := so41.cons lkbx38
      have Ol19 := Ol18.keep Kc19 (allS gebx32 (allS gebx33 (allS gebx34 (allS gebx35 (allS gebx31 all0)))))
      show Go _ _ _ _ _ (mkF _ _ _ [])
      refine G4 X19 K at_277 rfl ?_
      by_cases hc21 : fl5 = 0
      · refine G15 299 X19 K at_279 (teq hc21).1 (by decide) (by decide) ?_
        refine G4 X19 K at_299 rfl ?_
        refine G15 340 X19 K at_301 (teq hc14).1 (by decide) (by decide) ?_
        refine G4 X19 K at_340 rfl ?_
        refine G11 X19 K at_342 (feq hc15).1 ?_
        refine G3 X19 K (v := 1) at_345 (by decide) ?_
        refine G6 350 X19 K at_346 (by decide) (by decide) ?_
        refine G12 X19 K (L' := #[vi p0, vi p1, vi p2, vi p3, vi fl4, vi fl5, vi fl6, vi fl7, vi fl8, vi fl9, vi fl10, vi sh, vi ii, vi jj, vi ea, vi eb, vr b1, vr b9, vr b12, vi 1, un, un, un]) at_350 rfl ?_
        refine G4 X19 K at_352 rfl ?_
        refine G15 370 X19 K at_354 (teq hc21).1 (by decide) (by decide) ?_
        refine G3 X19 K (v := 0) at_370 (by decide) ?_
        refine G12 X19 K (L' := #[vi p0, vi p1, vi p2, vi p3, vi fl4, vi fl5, vi fl6, vi fl7, vi fl8, vi fl9, vi fl10, vi sh, vi ii, vi jj, vi ea, vi eb, vr b1, vr b9, vr b12, vi 1, vi 0, un, un]) at_371 rfl ?_
        have f49 := (f41.keep Kc19 (so42.nin 7 [5, 4, 3, 2, 6] rfl rfl rfl))
        exact key _ _ _ (z36.set ((aP * 6) + bP).toNatClampNeg (.int (vl fl7))) (z36.set ((aP * 6) + bP).toNatClampNeg (.int 1)) 1 0 (st_up X19 (by decide) (by decide)) rfl N19 Ol19 (Nat.le_trans (Nat.le_trans (Nat.le_trans (Nat.le_trans (Nat.le_trans hk10 Kc11.1) (Keep.ofE E12).1) Kc13.1) (Keep.ofE E18).1) Kc19.1) f49 g66 g67 (rdP clE clP haP hc15 hc21) (rdP clE clP haP hc15 hc21)
      · refine G11 X19 K at_279 (feq hc21).1 ?_
        refine G7 X19 K at_282 rfl rfl ?_
        refine G3 X19 K (v := aQ) at_284 ((by decide : Int32.ofInt 1 = 1).trans haQ) ?_
        refine G3 X19 K (v := 3) at_285 (by decide) ?_
        refine G4 X19 K at_286 rfl ?_
        refine G16 X19 K (z := bQ) at_288 hbQ ?_
        refine G4 X19 K at_289 rfl ?_
        refine G28 X19 K at_291 ?_
        refine G28 X19 K at_292 ?_
        refine G3 X19 K (v := 0) at_293 (by decide) ?_
        refine G35 X19 K (cap := 0) (ty := .int) (vs := []) (w516 H) rfl rfl at_294 (by decide) (by decide) rfl (by decide) (by decide) (by decide) ?_
        intro T20 h20 b20 kA20 X20 e20 E20 z20 A20
        have ge20 : (ζ Z) ≤ b20 := Nat.le_trans Ol19.2.1 (Nat.le_of_eq z20)
        have lk20 : bx38 < b20 := Nat.lt_of_lt_of_eq g71.lt z20
        have so43 := so42.cons lk20
        have Ol20 := Ol19.ext E20
        have f50 := ((f41.keep Kc19 (so43.nin 8 [6, 5, 4, 3, 7] rfl rfl rfl)).ext E20)
        have f51 := (g66.ext E20)
        have f52 := (g67.ext E20)
        have f53 := (g68.ext E20)
        have f54 := (g69.ext E20)
        have f55 := (g70.ext E20)
        have f56 := (g71.ext E20)
        have f57 := ((f47.keep Kc19 (so43.nin 20 [6, 5, 4, 3, 7] rfl rfl rfl)).ext E20)
        have f58 := ((f48.keep Kc19 (so43.nin 17 [6, 5, 4, 3, 7] rfl rfl rfl)).ext E20)
        have ne187 := so43.ne 1 7 rfl rfl rfl
        have ne188 := so43.ne 6 1 rfl rfl rfl
        have ne189 := so43.ne 5 1 rfl rfl rfl
        have ne190 := so43.ne 3 1 rfl rfl rfl
        have ne191 := so43.ne 4 1 rfl rfl rfl
        have ne192 := so43.ne 8 1 rfl rfl rfl
        have ne193 := so43.ne 17 1 rfl rfl rfl
        have ne194 := so43.ne 0 1 rfl rfl rfl
        have ne195 := so43.ne 0 7 rfl rfl rfl
        have ne196 := so43.ne 0 3 rfl rfl rfl
        have ne197 := so43.ne 0 4 rfl rfl rfl
        have ne198 := so43.ne 0 5 rfl rfl rfl
        have ne199 := so43.ne 0 6 rfl rfl rfl
        have ne200 := so43.ne 20 1 rfl rfl rfl
        refine G8 X20 K (W := 0) (w552 H) (w553 H) (nf_self K (w555 H)) (w555 H) (w554 H) (w475 H) (w556 H) (by decide) (rm72_190 H b12 aQ bQ fl8 b20 bx31 b9 bx32 bx33 bx34 bx35 (z36.set ((aP * 6) + bP).toNatClampNeg (.int (vl fl7))) kB12 (z36.set ((aP * 6) + bP).toNatClampNeg (.int 1)) kB13 r3 kB14 r4 kB15 bx38 kA20 bx39 kB17 bx20 bx21 b10 bx22 bx23 bx7 bx17 Ol20 f50 f51 f52 f53 f54 (gs1 clP clQ nA nB hc19 hc20) (fl01 hfl8) f55 A20 f56 f57 f58 gebx31 ne187 g73 gebx38 (Ne.symm ne187) ne188 ne157 gebx32 ne189 ne158 ne159 gebx33 gebx17 ne190 ne160 ne161 ne162 gebx35 ne163 (Ne.symm ne159) (Ne.symm ne161) (Ne.symm ne162) ne191 ne167 ne166 ne165 gebx34 (Ne.symm ne166) (Ne.symm ne165) ne192 ne168 ne169 ne170 ne171 ne193 ne172 ne173 ne174 ne175 ne176 ne194 ne195 ne196 ne197 ne198 ne199 ne200 ne182 ne183 ne184 ne185 ne186) e20 f50.1 rfl rfl rfl (lenOf pd_51 rfl) rfl at_296 (by decide) ?_
        rintro T21 v21 L21 X21 ⟨rfl, N21q, Kc21, g74, g75⟩
        have N21 := Fr.app N19 N21q
        have Ol21 := Ol20.keep Kc21 (allS gebx32 (allS gebx33 (allS gebx34 (allS gebx35 (allS gebx31 (allS gebx38 all0))))))
        show Go _ _ _ _ _ (mkF _ _ _ [])
        refine G4 X21 K at_299 rfl ?_
        refine G15 340 X21 K at_301 (teq hc14).1 (by decide) (by decide) ?_
        refine G4 X21 K at_340 rfl ?_
        refine G11 X21 K at_342 (feq hc15).1 ?_
        refine G3 X21 K (v := 1) at_345 (by decide) ?_
        refine G6 350 X21 K at_346 (by decide) (by decide) ?_
        refine G12 X21 K (L' := #[vi p0, vi p1, vi p2, vi p3, vi fl4, vi fl5, vi fl6, vi fl7, vi fl8, vi fl9, vi fl10, vi sh, vi ii, vi jj, vi ea, vi eb, vr b1, vr b9, vr b12, vi 1, un, un, un]) at_350 rfl ?_
        refine G4 X21 K at_352 rfl ?_
        refine G11 X21 K at_354 (feq hc21).1 ?_
        refine G4 X21 K at_357 rfl ?_
        refine G11 X21 K at_359 (feq hc15).1 ?_
        refine G3 X21 K (v := 2) at_362 (by decide) ?_
        refine G6 371 X21 K at_363 (by decide) (by decide) ?_
        refine G12 X21 K (L' := #[vi p0, vi p1, vi p2, vi p3, vi fl4, vi fl5, vi fl6, vi fl7, vi fl8, vi fl9, vi fl10, vi sh, vi ii, vi jj, vi ea, vi eb, vr b1, vr b9, vr b12, vi 1, vi 2, un, un]) at_371 rfl ?_
        have f59 := (f50.keep Kc21 (so43.nin 8 [6, 5, 4, 3, 7, 1] rfl rfl rfl))
        exact key _ _ _ ((z36.set ((aP * 6) + bP).toNatClampNeg (.int (vl fl7))).set ((aQ * 6) + bQ).toNatClampNeg (.int (vl fl8))) ((z36.set ((aP * 6) + bP).toNatClampNeg (.int 1)).set ((aQ * 6) + bQ).toNatClampNeg (.int 2)) 1 2 (st_up X21 (by decide) (by decide)) rfl N21 Ol21 (Nat.le_trans (Nat.le_trans (Nat.le_trans (Nat.le_trans (Nat.le_trans (Nat.le_trans (Nat.le_trans hk10 Kc11.1) (Keep.ofE E12).1) Kc13.1) (Keep.ofE E18).1) Kc19.1) (Keep.ofE E20).1) Kc21.1) f59 g74 g75 (rdPQ clE clP clQ haP haQ hc15 hc21) (rdPQ clE clP clQ haP haQ hc15 hc21)
  · refine G11 X13 K at_205 (feq hc14).1 ?_
    refine G4 X13 K at_208 rfl ?_
    by_cases hc22 : fl5 = 0
    · refine G15 230 X13 K at_210 (teq hc22).1 (by decide) (by decide) ?_
      refine G4 X13 K at_230 rfl ?_
      by_cases hc23 : fl4 = 0
      · refine G15 299 X13 K at_232 (teq hc23).1 (by decide) (by decide) ?_
        refine G4 X13 K at_299 rfl ?_
        refine G11 X13 K at_301 (feq hc14).1 ?_
        refine G4 X13 K at_304 rfl ?_
        refine G15 313 X13 K at_306 (teq hc22).1 (by decide) (by decide) ?_
        refine G3 X13 K (v := 0) at_313 (by decide) ?_
        refine G12 X13 K (L' := #[vi p0, vi p1, vi p2, vi p3, vi fl4, vi fl5, vi fl6, vi fl7, vi fl8, vi fl9, vi fl10, vi sh, vi ii, vi jj, vi ea, vi eb, vr b1, vr b9, vr b12, un, vi 0, un, un]) at_314 rfl ?_
        refine G4 X13 K at_316 rfl ?_
        refine G15 334 X13 K at_318 (teq hc23).1 (by decide) (by decide) ?_
        refine G3 X13 K (v := 0) at_334 (by decide) ?_
        refine G12 X13 K (L' := #[vi p0, vi p1, vi p2, vi p3, vi fl4, vi fl5, vi fl6, vi fl7, vi fl8, vi fl9, vi fl10, vi sh, vi ii, vi jj, vi ea, vi eb, vr b1, vr b9, vr b12, vi 0, vi 0, un, un]) at_335 rfl ?_
        refine G6 373 X13 K at_337 (by decide) (by decide) ?_
        exact key _ _ _ z36 z36 0 0 (st_up X13 (by decide) (by decide)) rfl N13 Ol13 (Nat.le_trans (Nat.le_trans (Nat.le_trans hk10 Kc11.1) (Keep.ofE E12).1) Kc13.1) g52 fz1 fz2 (rdN clE hc23 hc22) (rdN clE hc23 hc22)
      · refine G11 X13 K at_232 (feq hc23).1 ?_
        refine G7 X13 K at_235 rfl rfl ?_
        refine G3 X13 K (v := aP) at_237 ((by decide : Int32.ofInt 0 = 0).trans haP) ?_
        refine G3 X13 K (v := 3) at_238 (by decide) ?_
        refine G4 X13 K at_239 rfl ?_
        refine G16 X13 K (z := bP) at_241 hbP ?_
        refine G4 X13 K at_242 rfl ?_
        refine G28 X13 K at_244 ?_
        refine G28 X13 K at_245 ?_
        refine G3 X13 K (v := 0) at_246 (by decide) ?_
        refine G35 X13 K (cap := 0) (ty := .int) (vs := []) (w516 H) rfl rfl at_247 (by decide) (by decide) rfl (by decide) (by decide) (by decide) ?_
        intro T22 h22 b22 kA22 X22 e22 E22 z22 A22
        have ge22 : (ζ Z) ≤ b22 := Nat.le_trans Ol13.2.1 (Nat.le_of_eq z22)
        have lk22 : bx35 < b22 := Nat.lt_of_lt_of_eq fz4.lt z22
        have so44 := so38.cons lk22
        have Ol22 := Ol13.ext E22
        have f60 := (g52.ext E22)
        have f61 := (fz1.ext E22)
        have f62 := (fz2.ext E22)
        have f63 := (fz3.ext E22)
        have f64 := (fz4.ext E22)
        have f65 := (g53.ext E22)
        have f66 := ((f29.keep Kc13 (so44.nin 18 [6] rfl rfl rfl)).ext E22)
        have f67 := ((f30.keep Kc13 (so44.nin 15 [6] rfl rfl rfl)).ext E22)
        have ne201 := so44.ne 4 5 rfl rfl rfl
        have ne202 := so44.ne 3 5 rfl rfl rfl
        have ne203 := so44.ne 3 4 rfl rfl rfl
        have ne204 := so44.ne 1 5 rfl rfl rfl
        have ne205 := so44.ne 1 4 rfl rfl rfl
        have ne206 := so44.ne 1 3 rfl rfl rfl
        have ne207 := so44.ne 6 1 rfl rfl rfl
        have ne208 := so44.ne 2 1 rfl rfl rfl
        have ne209 := so44.ne 2 3 rfl rfl rfl
        have ne210 := so44.ne 2 4 rfl rfl rfl
        have ne211 := so44.ne 2 5 rfl rfl rfl
        have ne212 := so44.ne 6 5 rfl rfl rfl
        have ne213 := so44.ne 6 2 rfl rfl rfl
        have ne214 := so44.ne 6 3 rfl rfl rfl
        have ne215 := so44.ne 6 4 rfl rfl rfl
        have ne216 := so44.ne 15 5 rfl rfl rfl
        have ne217 := so44.ne 15 1 rfl rfl rfl
        have ne218 := so44.ne 15 2 rfl rfl rfl
        have ne219 := so44.ne 15 3 rfl rfl rfl
        have ne220 := so44.ne 15 4 rfl rfl rfl
        have ne221 := so44.ne 0 5 rfl rfl rfl
        have ne222 := so44.ne 0 1 rfl rfl rfl
        have ne223 := so44.ne 0 2 rfl rfl rfl
        have ne224 := so44.ne 0 3 rfl rfl rfl
        have ne225 := so44.ne 0 4 rfl rfl rfl
        have ne226 := so44.ne 18 5 rfl rfl rfl
        have ne227 := so44.ne 18 1 rfl rfl rfl
        have ne228 := so44.ne 18 2 rfl rfl rfl
        have ne229 := so44.ne 18 3 rfl rfl rfl
        have ne230 := so44.ne 18 4 rfl rfl rfl
        refine G8 X22 K (W := 0) (w552 H) (w553 H) (nf_self K (w555 H)) (w555 H) (w554 H) (w475 H) (w556 H) (by decide) (rm72_183 H b12 aP bP fl7 b22 bx31 b9 bx32 bx33 bx34 bx35 z36 kB12 z36 kB13 p12 kB14 o12 kB15 kA22 bx20 bx21 b10 bx22 bx23 bx7 bx17 Ol22 f60 f61 f62 f63 f64 (gs0 clP) (fl01 hfl7) f65 A22 f66 f67 gebx31 ne201 gebx32 ne202 ne203 gebx33 gebx17 ne204 ne205 ne206 gebx35 ne207 (Ne.symm ne204) (Ne.symm ne202) (Ne.symm ne201) (Ne.symm ne203) (Ne.symm ne205) (Ne.symm ne206) ne208 ne209 ne210 ne211 gebx34 (Ne.symm ne211) (Ne.symm ne210) (Ne.symm ne209) (Ne.symm ne208) ne212 ne213 ne214 ne215 ne216 ne217 ne218 ne219 ne220 ne221 ne222 ne223 ne224 ne225 ne226 ne227 ne228 ne229 ne230) e22 f60.1 rfl rfl rfl (lenOf pd_51 rfl) rfl at_249 (by decide) ?_
        rintro T23 v23 L23 X23 ⟨r5, r6, bx40, kB18, bx41, hc24, hc25, rfl, N23q, Kc23, lz23_0, g76, g77, g78, g79, g80, g81, g82, g83⟩
        have N23 := Fr.app N13 N23q
        have gebx40 := Nat.le_trans Ol22.2.1 lz23_0
        have lkbx40 : b22 < bx40 := Nat.lt_of_lt_of_le A22.lt lz23_0
        have so45 := so44.cons lkbx40
        have Ol23 := Ol22.keep Kc23 (allS gebx32 (allS gebx33 (allS gebx34 (allS gebx35 (allS gebx31 all0)))))
        show Go _ _ _ _ _ (mkF _ _ _ [])
        refine G6 299 X23 K at_252 (by decide) (by decide) ?_
        refine G4 X23 K at_299 rfl ?_
        refine G11 X23 K at_301 (feq hc14).1 ?_
        refine G4 X23 K at_304 rfl ?_
        refine G15 313 X23 K at_306 (teq hc22).1 (by decide) (by decide) ?_
        refine G3 X23 K (v := 0) at_313 (by decide) ?_
        refine G12 X23 K (L' := #[vi p0, vi p1, vi p2, vi p3, vi fl4, vi fl5, vi fl6, vi fl7, vi fl8, vi fl9, vi fl10, vi sh, vi ii, vi jj, vi ea, vi eb, vr b1, vr b9, vr b12, un, vi 0, un, un]) at_314 rfl ?_
        refine G4 X23 K at_316 rfl ?_
        refine G11 X23 K at_318 (feq hc23).1 ?_
        refine G4 X23 K at_321 rfl ?_
        refine G15 330 X23 K at_323 (teq hc22).1 (by decide) (by decide) ?_
        refine G3 X23 K (v := 1) at_330 (by decide) ?_
        refine G6 335 X23 K at_331 (by decide) (by decide) ?_
        refine G12 X23 K (L' := #[vi p0, vi p1, vi p2, vi p3, vi fl4, vi fl5, vi fl6, vi fl7, vi fl8, vi fl9, vi fl10, vi sh, vi ii, vi jj, vi ea, vi eb, vr b1, vr b9, vr b12, vi 1, vi 0, un, un]) at_335 rfl ?_
        refine G6 373 X23 K at_337 (by decide) (by decide) ?_
        have f68 := (f60.keep Kc23 (so45.nin 7 [5, 4, 3, 2, 6] rfl rfl rfl))
        exact key _ _ _ (z36.set ((aP * 6) + bP).toNatClampNeg (.int (vl fl7))) (z36.set ((aP * 6) + bP).toNatClampNeg (.int 1)) 1 0 (st_up X23 (by decide) (by decide)) rfl N23 Ol23 (Nat.le_trans (Nat.le_trans (Nat.le_trans (Nat.le_trans (Nat.le_trans hk10 Kc11.1) (Keep.ofE E12).1) Kc13.1) (Keep.ofE E22).1) Kc23.1) f68 g76 g77 (rdP clE clP haP hc23 hc22) (rdP clE clP haP hc23 hc22)
    · refine G11 X13 K at_210 (feq hc22).1 ?_
      refine G7 X13 K at_213 rfl rfl ?_
      refine G3 X13 K (v := aQ) at_215 ((by decide : Int32.ofInt 1 = 1).trans haQ) ?_
      refine G3 X13 K (v := 3) at_216 (by decide) ?_
      refine G4 X13 K at_217 rfl ?_
      refine G16 X13 K (z := bQ) at_219 hbQ ?_
      refine G4 X13 K at_220 rfl ?_
      refine G28 X13 K at_222 ?_
      refine G28 X13 K at_223 ?_
      refine G3 X13 K (v := 0) at_224 (by decide) ?_
      refine G35 X13 K (cap := 0) (ty := .int) (vs := []) (w516 H) rfl rfl at_225 (by decide) (by decide) rfl (by decide) (by decide) (by decide) ?_
      intro T24 h24 b24 kA24 X24 e24 E24 z24 A24
      have ge24 : (ζ Z) ≤ b24 := Nat.le_trans Ol13.2.1 (Nat.le_of_eq z24)
      have lk24 : bx35 < b24 := Nat.lt_of_lt_of_eq fz4.lt z24
      have so46 := so38.cons lk24
      have Ol24 := Ol13.ext E24
      have f69 := (g52.ext E24)
      have f70 := (fz1.ext E24)
      have f71 := (fz2.ext E24)
      have f72 := (fz3.ext E24)
      have f73 := (fz4.ext E24)
      have f74 := (g53.ext E24)
      have f75 := ((f29.keep Kc13 (so46.nin 18 [6] rfl rfl rfl)).ext E24)
      have f76 := ((f30.keep Kc13 (so46.nin 15 [6] rfl rfl rfl)).ext E24)
      have ne231 := so46.ne 4 5 rfl rfl rfl
      have ne232 := so46.ne 3 5 rfl rfl rfl
      have ne233 := so46.ne 3 4 rfl rfl rfl
      have ne234 := so46.ne 1 5 rfl rfl rfl
      have ne235 := so46.ne 1 4 rfl rfl rfl
      have ne236 := so46.ne 1 3 rfl rfl rfl
      have ne237 := so46.ne 6 1 rfl rfl rfl
      have ne238 := so46.ne 2 1 rfl rfl rfl
      have ne239 := so46.ne 2 3 rfl rfl rfl
      have ne240 := so46.ne 2 4 rfl rfl rfl
      have ne241 := so46.ne 2 5 rfl rfl rfl
      have ne242 := so46.ne 6 5 rfl rfl rfl
      have ne243 := so46.ne 6 2 rfl rfl rfl
      have ne244 := so46.ne 6 3 rfl rfl rfl
      have ne245 := so46.ne 6 4 rfl rfl rfl
      have ne246 := so46.ne 15 5 rfl rfl rfl
      have ne247 := so46.ne 15 1 rfl rfl rfl
      have ne248 := so46.ne 15 2 rfl rfl rfl
      have ne249 := so46.ne 15 3 rfl rfl rfl
      have ne250 := so46.ne 15 4 rfl rfl rfl
      have ne251 := so46.ne 0 5 rfl rfl rfl
      have ne252 := so46.ne 0 1 rfl rfl rfl
      have ne253 := so46.ne 0 2 rfl rfl rfl
      have ne254 := so46.ne 0 3 rfl rfl rfl
      have ne255 := so46.ne 0 4 rfl rfl rfl
      have ne256 := so46.ne 18 5 rfl rfl rfl
      have ne257 := so46.ne 18 1 rfl rfl rfl
      have ne258 := so46.ne 18 2 rfl rfl rfl
      have ne259 := so46.ne 18 3 rfl rfl rfl
      have ne260 := so46.ne 18 4 rfl rfl rfl
      refine G8 X24 K (W := 0) (w552 H) (w553 H) (nf_self K (w555 H)) (w555 H) (w554 H) (w475 H) (w556 H) (by decide) (rm72_183 H b12 aQ bQ fl8 b24 bx31 b9 bx32 bx33 bx34 bx35 z36 kB12 z36 kB13 p12 kB14 o12 kB15 kA24 bx20 bx21 b10 bx22 bx23 bx7 bx17 Ol24 f69 f70 f71 f72 f73 (gs0 clQ) (fl01 hfl8) f74 A24 f75 f76 gebx31 ne231 gebx32 ne232 ne233 gebx33 gebx17 ne234 ne235 ne236 gebx35 ne237 (Ne.symm ne234) (Ne.symm ne232) (Ne.symm ne231) (Ne.symm ne233) (Ne.symm ne235) (Ne.symm ne236) ne238 ne239 ne240 ne241 gebx34 (Ne.symm ne241) (Ne.symm ne240) (Ne.symm ne239) (Ne.symm ne238) ne242 ne243 ne244 ne245 ne246 ne247 ne248 ne249 ne250 ne251 ne252 ne253 ne254 ne255 ne256 ne257 ne258 ne259 ne260) e24 f69.1 rfl rfl rfl (lenOf pd_51 rfl) rfl at_227 (by decide) ?_
      rintro T25 v25 L25 X25 ⟨r7, r8, bx42, kB19, bx43, hc26, hc27, rfl, N25q, Kc25, lz25_0, g84, g85, g86, g87, g88, g89, g90, g91⟩
      have N25 := Fr.app N13 N25q
      have gebx42 := Nat.le_trans Ol24.2.1 lz25_0
      have lkbx42 : b24 < bx42 := Nat.lt_of_lt_of_le A24.lt lz25_0
      have so47 := so46.cons lkbx42
      have Ol25 := Ol24.keep Kc25 (allS gebx32 (allS gebx33 (allS gebx34 (allS gebx35 (allS gebx31 all0)))))
      show Go _ _ _ _ _ (mkF _ _ _ [])
      refine G4 X25 K at_230 rfl ?_
      by_cases hc28 : fl4 = 0
      · refine G15 299 X25 K at_232 (teq hc28).1 (by decide) (by decide) ?_
        refine G4 X25 K at_299 rfl ?_
        refine G11 X25 K at_301 (feq hc14).1 ?_
        refine G4 X25 K at_304 rfl ?_
        refine G11 X25 K at_306 (feq hc22).1 ?_
        refine G3 X25 K (v := 1) at_309 (by decide) ?_
        refine G6 314 X25 K at_310 (by decide) (by decide) ?_
        refine G12 X25 K (L' := #[vi p0, vi p1, vi p2, vi p3, vi fl4, vi fl5, vi fl6, vi fl7, vi fl8, vi fl9, vi fl10, vi sh, vi ii, vi jj, vi ea, vi eb, vr b1, vr b9, vr b12, un, vi 1, un, un]) at_314 rfl ?_
        refine G4 X25 K at_316 rfl ?_
        refine G15 334 X25 K at_318 (teq hc28).1 (by decide) (by decide) ?_
        refine G3 X25 K (v := 0) at_334 (by decide) ?_
        refine G12 X25 K (L' := #[vi p0, vi p1, vi p2, vi p3, vi fl4, vi fl5, vi fl6, vi fl7, vi fl8, vi fl9, vi fl10, vi sh, vi ii, vi jj, vi ea, vi eb, vr b1, vr b9, vr b12, vi 0, vi 1, un, un]) at_335 rfl ?_
        refine G6 373 X25 K at_337 (by decide) (by decide) ?_
        have f77 := (f69.keep Kc25 (so47.nin 7 [5, 4, 3, 2, 6] rfl rfl rfl))
        exact key _ _ _ (z36.set ((aQ * 6) + bQ).toNatClampNeg (.int (vl fl8))) (z36.set ((aQ * 6) + bQ).toNatClampNeg (.int 1)) 0 1 (st_up X25 (by decide) (by decide)) rfl N25 Ol25 (Nat.le_trans (Nat.le_trans (Nat.le_trans (Nat.le_trans (Nat.le_trans hk10 Kc11.1) (Keep.ofE E12).1) Kc13.1) (Keep.ofE E24).1) Kc25.1) f77 g84 g85 (rdQ clE clQ haQ hc28 hc22) (rdQ clE clQ haQ hc28 hc22)
      · refine G11 X25 K at_232 (feq hc28).1 ?_
        refine G7 X25 K at_235 rfl rfl ?_
        refine G3 X25 K (v := aP) at_237 ((by decide : Int32.ofInt 0 = 0).trans haP) ?_
        refine G3 X25 K (v := 3) at_238 (by decide) ?_
        refine G4 X25 K at_239 rfl ?_
        refine G16 X25 K (z := bP) at_241 hbP ?_
        refine G4 X25 K at_242 rfl ?_
        refine G28 X25 K at_244 ?_
        refine G28 X25 K at_245 ?_
        refine G3 X25 K (v := 0) at_246 (by decide) ?_
        refine G35 X25 K (cap := 0) (ty := .int) (vs := []) (w516 H) rfl rfl at_247 (by decide) (by decide) rfl (by decide) (by decide) (by decide) ?_
        intro T26 h26 b26 kA26 X26 e26 E26 z26 A26
        have ge26 : (ζ Z) ≤ b26 := Nat.le_trans Ol25.2.1 (Nat.le_of_eq z26)
        have lk26 : bx42 < b26 := Nat.lt_of_lt_of_eq g89.lt z26
        have so48 := so47.cons lk26
        have Ol26 := Ol25.ext E26
        have f78 := ((f69.keep Kc25 (so48.nin 8 [6, 5, 4, 3, 7] rfl rfl rfl)).ext E26)
        have f79 := (g84.ext E26)
        have f80 := (g85.ext E26)
        have f81 := (g86.ext E26)
        have f82 := (g87.ext E26)
        have f83 := (g88.ext E26)
        have f84 := (g89.ext E26)
        have f85 := ((f75.keep Kc25 (so48.nin 20 [6, 5, 4, 3, 7] rfl rfl rfl)).ext E26)
        have f86 := ((f76.keep Kc25 (so48.nin 17 [6, 5, 4, 3, 7] rfl rfl rfl)).ext E26)
        have ne261 := so48.ne 1 7 rfl rfl rfl
        have ne262 := so48.ne 6 1 rfl rfl rfl
        have ne263 := so48.ne 5 1 rfl rfl rfl
        have ne264 := so48.ne 3 1 rfl rfl rfl
        have ne265 := so48.ne 4 1 rfl rfl rfl
        have ne266 := so48.ne 8 1 rfl rfl rfl
        have ne267 := so48.ne 17 1 rfl rfl rfl
        have ne268 := so48.ne 0 1 rfl rfl rfl
        have ne269 := so48.ne 0 7 rfl rfl rfl
        have ne270 := so48.ne 0 3 rfl rfl rfl
        have ne271 := so48.ne 0 4 rfl rfl rfl
        have ne272 := so48.ne 0 5 rfl rfl rfl
        have ne273 := so48.ne 0 6 rfl rfl rfl
        have ne274 := so48.ne 20 1 rfl rfl rfl
        refine G8 X26 K (W := 0) (w552 H) (w553 H) (nf_self K (w555 H)) (w555 H) (w554 H) (w475 H) (w556 H) (by decide) (rm72_190 H b12 aP bP fl7 b26 bx31 b9 bx32 bx33 bx34 bx35 (z36.set ((aQ * 6) + bQ).toNatClampNeg (.int (vl fl8))) kB12 (z36.set ((aQ * 6) + bQ).toNatClampNeg (.int 1)) kB13 r7 kB14 r8 kB15 bx42 kA26 bx43 kB19 bx20 bx21 b10 bx22 bx23 bx7 bx17 Ol26 f78 f79 f80 f81 f82 (gs1 clQ clP nA.symm nB.symm hc26 hc27) (fl01 hfl7) f83 A26 f84 f85 f86 gebx31 ne261 g91 gebx42 (Ne.symm ne261) ne262 ne231 gebx32 ne263 ne232 ne233 gebx33 gebx17 ne264 ne234 ne235 ne236 gebx35 ne237 (Ne.symm ne233) (Ne.symm ne235) (Ne.symm ne236) ne265 ne241 ne240 ne239 gebx34 (Ne.symm ne240) (Ne.symm ne239) ne266 ne242 ne243 ne244 ne245 ne267 ne246 ne247 ne248 ne249 ne250 ne268 ne269 ne270 ne271 ne272 ne273 ne274 ne256 ne257 ne258 ne259 ne260) e26 f78.1 rfl rfl rfl (lenOf pd_51 rfl) rfl at_249 (by decide) ?_
        rintro T27 v27 L27 X27 ⟨rfl, N27q, Kc27, g92, g93⟩
        have N27 := Fr.app N25 N27q
        have Ol27 := Ol26.keep Kc27 (allS gebx32 (allS gebx33 (allS gebx34 (allS gebx35 (allS gebx31 (allS gebx42 all0))))))
        show Go _ _ _ _ _ (mkF _ _ _ [])
        refine G6 299 X27 K at_252 (by decide) (by decide) ?_
        refine G4 X27 K at_299 rfl ?_
        refine G11 X27 K at_301 (feq hc14).1 ?_
        refine G4 X27 K at_304 rfl ?_
        refine G11 X27 K at_306 (feq hc22).1 ?_
        refine G3 X27 K (v := 1) at_309 (by decide) ?_
        refine G6 314 X27 K at_310 (by decide) (by decide) ?_
        refine G12 X27 K (L' := #[vi p0, vi p1, vi p2, vi p3, vi fl4, vi fl5, vi fl6, vi fl7, vi fl8, vi fl9, vi fl10, vi sh, vi ii, vi jj, vi ea, vi eb, vr b1, vr b9, vr b12, un, vi 1, un, un]) at_314 rfl ?_
        refine G4 X27 K at_316 rfl ?_
        refine G11 X27 K at_318 (feq hc28).1 ?_
        refine G4 X27 K at_321 rfl ?_
        refine G11 X27 K at_323 (feq hc22).1 ?_
        refine G3 X27 K (v := 2) at_326 (by decide) ?_
        refine G6 335 X27 K at_327 (by decide) (by decide) ?_
        refine G12 X27 K (L' := #[vi p0, vi p1, vi p2, vi p3, vi fl4, vi fl5, vi fl6, vi fl7, vi fl8, vi fl9, vi fl10, vi sh, vi ii, vi jj, vi ea, vi eb, vr b1, vr b9, vr b12, vi 2, vi 1, un, un]) at_335 rfl ?_
        refine G6 373 X27 K at_337 (by decide) (by decide) ?_
        have f87 := (f78.keep Kc27 (so48.nin 8 [6, 5, 4, 3, 7, 1] rfl rfl rfl))
        exact key _ _ _ ((z36.set ((aQ * 6) + bQ).toNatClampNeg (.int (vl fl8))).set ((aP * 6) + bP).toNatClampNeg (.int (vl fl7))) ((z36.set ((aQ * 6) + bQ).toNatClampNeg (.int 1)).set ((aP * 6) + bP).toNatClampNeg (.int 2)) 2 1 (st_up X27 (by decide) (by decide)) rfl N27 Ol27 (Nat.le_trans (Nat.le_trans (Nat.le_trans (Nat.le_trans (Nat.le_trans (Nat.le_trans (Nat.le_trans hk10 Kc11.1) (Keep.ofE E12).1) Kc13.1) (Keep.ofE E24).1) Kc25.1) (Keep.ofE E26).1) Kc27.1) f87 g92 g93 (rdQP clE clP clQ haP haQ hc28 hc22) (rdQP clE clP clQ haP haQ hc28 hc22)
end Walk
theorem comes_1 {Post : Tables → Env → Array Value → State → Outcome → State → Prop} (hpost : ∀ tb e args s v u, (limb_1_1.after args s (.returned v) u = true ∧ limb_1_2.after args s (.returned v) u = true ∧ True) → ReturnedEndW s (.returned v) u (Jvm.fieldLocs frame_1_writes args s ++ Jvm.arrayLocs frame_1_arrays args s ++ Jvm.staticLocs frame_1_statics s) 128 3776 → Post tb e args s (.returned v) u) :
    ArmFor flags0 classFile x code maxLocals ret World_1 tables_1 room_1 Calls_1 rest_1 Pre_1 Post := by
  intro l hfl _ _ p e ha hc hk s m args below hf hA hF happ hP
  obtain ⟨hcalls, hrest, hpre⟩ := hP
  obtain ⟨hsets, -⟩ := atoms_of _ (rest_1_c_eq ▸ (show rest_1_c.before _ s = true from hrest))
  obtain ⟨mc, mk, mm, mq1, mq2, mq3, -⟩ := hcalls.1
  obtain ⟨-, -, -, hnamed, -, -, -, hat⟩ := (Spec.applies_iff hf).mp happ
  obtain ⟨hg, hn⟩ := and_e (Cond.before_iff.mp (show (Jvm.Cond.and given_1 narrow_1).before args s = true from hpre))
  obtain ⟨g0, hg0⟩ := and_e hg
  obtain ⟨g1, hg1⟩ := and_e hg0
  obtain ⟨g2, hg2⟩ := and_e hg1
  obtain ⟨g3, hg3⟩ := and_e hg2
  have g4 := hg3
  obtain ⟨u0, u1, u2, u3, rfl⟩ : ∃ u0 u1 u2 u3 : Value, args = #[u0, u1, u2, u3] := by
    have hs : args.size = 4 := by simpa [Cond.value, given_1] using g0
    obtain ⟨L⟩ := args
    match L, hs with
    | [u0, u1, u2, u3], _ => exact ⟨u0, u1, u2, u3, rfl⟩
  have hw := fun d (hd : d ∈ tables_1) => atoms_spec (ws := Jvm.Cond.code x code maxLocals ret :: tables_1) hat d (List.mem_cons_of_mem _ hd)
  have hfit : Fit s := fun {y c} hc i hi => by
    obtain ⟨ha, rfl⟩ := Array.getElem?_eq_some_iff.mp hc
    have q := List.all_eq_true.mp ((Array.all_eq_true_iff_forall_mem.mp hF) _ (Array.getElem_mem ha)) i (List.mem_range.mpr hi)
    simpa [Array.getElem?_eq_getElem hi] using q
  obtain ⟨i0, ei0⟩ := is_v g1
  obtain rfl : u0 = (.int i0) := Option.some.inj ei0
  obtain ⟨i1, ei1⟩ := is_v g2
  obtain rfl : u1 = (.int i1) := Option.some.inj ei1
  obtain ⟨i2, ei2⟩ := is_v g3
  obtain rfl : u2 = (.int i2) := Option.some.inj ei2
  obtain ⟨i3, ei3⟩ := is_v g4
  obtain rfl : u3 = (.int i3) := Option.some.inj ei3
  obtain ⟨n, o, h1, h2, h3, _, L, rfl, ⟨rfl, N⟩, hq⟩ := rm0 l (Z := s) ⟨hw, hn, hfit, hsets, ⟨mc, mk, mm, mq1, mq2, mq3⟩⟩ i0 i1 i2 i3 s.heap (Old.start s) p e ha hc hk s m _ below hf ((Spec.applies_iff_loose hf).mp happ).1 ⟨rfl, State.Warmed39.refl s, rfl, IB.start⟩ trivial
  refine ⟨n, _, h1, h2, h3, hpost _ _ _ _ _ _ ⟨Cond.after_iff.mpr rfl, Cond.after_iff.mpr (eq_i res_at (Term.int_eval (1)) rfl), trivial⟩ ⟨hq.1, hq.2.1, hq.2.2.1, (hq.2.2.2.sift fun y hy => Or.inr (N y hy)).mono (by decide) (by decide)⟩⟩
theorem main_1_1 : Claimed_1_1 := comes_1 fun _ _ _ _ _ _ h hF => ⟨h.1, hF⟩
theorem main_1_2 : Claimed_1_2 := comes_1 fun _ _ _ _ _ _ h hF => ⟨h.2.1, hF⟩
end Jvm.Pilot.@@N@@
namespace Jvm.Pilot.@@N@@
open Jvm Jvm.ClassFile Sem Op Lib Jvm.Free Jvm.Stand Jvm.Pilot.@@N@@.Jvm.D
/-! MADE BY PROGRAM (witnessworld.py) out of the Statement's table words and the real class files: 58 classes; the members and pool entries that the words name. The judged class is class 1, her method 2. -/
set_option maxRecDepth 65536
set_option maxHeartbeats 40000000
abbrev Q57 : String := "<init>"
abbrev Q58 : String := "(IIIZLcom/example/cluewright/cluewright/Reason;Lcom/example/cluewright/cluewright/Clue;[ILcom/example/cluewright/cluewright/Chain;)V"
abbrev Q59 : String := "(IIZLcom/example/cluewright/cluewright/Reason;Lcom/example/cluewright/cluewright/Clue;Lcom/example/cluewright/cluewright/Chain;[I)V"
abbrev Q60 : String := "(IIZLcom/example/cluewright/cluewright/Reason;Lcom/example/cluewright/cluewright/Clue;[I)V"
abbrev Q61 : String := "(Ljava/util/Collection;)Ljava/util/List;"
abbrev Q62 : String := "(Ljava/lang/Object;Ljava/lang/Object;)Ljava/lang/Object;"
abbrev Q63 : String := "()V"
abbrev Q64 : String := "(ILjava/lang/Object;Ljava/lang/Object;Ljava/util/HashMap$Node;)Ljava/util/HashMap$Node;"
abbrev Q65 : String := "(Ljava/lang/String;Ljava/util/List;)V"
abbrev Q66 : String := "(I)Ljava/lang/Object;"
abbrev Q67 : String := "(ILjava/lang/Object;Ljava/lang/Object;Ljava/util/HashMap$Node;)V"
abbrev Q68 : String := "([Ljava/lang/Object;)Ljava/util/List;"
abbrev Q69 : String := "(Ljava/lang/String;C)Lcom/example/cluewright/cluewright/Category;"
abbrev Q70 : String := "()Ljava/util/Iterator;"
abbrev Q71 : String := "(ILjava/lang/Object;Ljava/lang/Object;ZZ)Ljava/lang/Object;"
abbrev Q72 : String := "(Ljava/lang/Object;)Ljava/lang/Object;"
abbrev Q73 : String := "([Ljava/lang/Object;ILjava/lang/Class;)[Ljava/lang/Object;"
abbrev Q74 : String := "(Lcom/example/cluewright/cluewright/Puzzle;)V"
abbrev Q75 : String := "()[Ljava/lang/Object;"
abbrev Q76 : String := "java/util/Collection"
abbrev Q77 : String := "java/util/function/BiFunction"
abbrev Q78 : String := "java/lang/StringLatin1"
abbrev Q79 : String := "([Ljava/lang/Object;I)[Ljava/lang/Object;"
abbrev Q80 : String := "()I"
abbrev Q81 : String := "$assertionsDisabled"
abbrev Q82 : String := "(Ljava/lang/Object;Ljava/lang/Object;)V"
abbrev Q83 : String := "()Ljava/lang/Object;"
abbrev Q84 : String := "(IILjava/util/function/BiFunction;)I"
abbrev Q85 : String := "(Ljava/util/DualPivotQuicksort$Sorter;[IIII)V"
abbrev Q86 : String := "(Ljava/lang/Object;)Z"
abbrev Q87 : String := "serialVersionUID"
abbrev Q88 : String := "java/io/Serializable"
abbrev Q89 : String := "(Ljava/lang/Object;[Ljava/lang/Object;I)V"
abbrev Q90 : String := "java/util/Objects"
abbrev Q91 : String := "jdk/internal/util/Preconditions"
abbrev Q92 : String := "(II)I"
abbrev Q93 : String := "java/lang/Math"
abbrev Q94 : String := "java/lang/constant/ConstantDesc"
abbrev Q95 : String := "(Ljava/lang/Object;ILjava/lang/Object;II)V"
abbrev Q96 : String := "(Ljava/util/ArrayList;)V"
abbrev Q97 : String := "java/io/PrintStream"
abbrev Q98 : String := "([Ljava/lang/Object;Z)V"
abbrev Q99 : String := "java/lang/constant/Constable"
abbrev Q100 : String := "(I)Ljava/lang/Integer;"
abbrev Q101 : String := "java/util/Map"
abbrev Q102 : String := "()[Ljava/util/HashMap$Node;"
abbrev Q103 : String := "(C)Ljava/lang/String;"
abbrev Q104 : String := "java/util/AbstractMap"
abbrev Q105 : String := "copyOf"
abbrev Q106 : String := "java/util/ImmutableCollections$SetN"
abbrev Q107 : String := "java/util/ImmutableCollections$MapN"
abbrev Q108 : String := "hashCode"
abbrev Q109 : String := "iterator"
abbrev Q110 : String := "(Ljava/util/List;I)V"
abbrev Q111 : String := "checkIndex"
abbrev Q112 : String := "java/lang/Record"
abbrev Q113 : String := "java/lang/Class"
abbrev Q114 : String := "()Ljava/util/List;"
abbrev Q115 : String := "hasNext"
abbrev Q116 : String := "java/util/RandomAccess"
abbrev Q117 : String := "(I)[Ljava/lang/Object;"
abbrev Q118 : String := "requireNonNull"
abbrev Q119 : String := "checkForComodification"
abbrev Q120 : String := "java/util/SequencedCollection"
abbrev Q121 : String := "(Ljava/lang/Object;)I"
abbrev Q122 : String := "valueOf"
abbrev Q123 : String := "java/lang/Comparable"
abbrev Q124 : String := "java/lang/Cloneable"
abbrev Q125 : String := "java/io/InputStream"
abbrev Q126 : String := "java/util/Map$Entry"
abbrev Q127 : String := "afterNodeInsertion"
abbrev Q128 : String := "listFromArray"
abbrev Q129 : String := "categoryCount"
abbrev Q130 : String := "java/util/Set"
abbrev Q131 : String := "java/lang/CharSequence"
abbrev Q132 : String := "java/util/ListIterator"
abbrev Q133 : String := "elementCount"
namespace start1
open Jvm.ClassFile
def u (s : String) : CpInfo := .utf8 (stringToUtf16 s)
def gap : Nat → List CpInfo → List CpInfo
  | 0, r => r
  | n + 1, r => .unusable :: gap n r
def poolList (es : List (Nat × CpInfo)) (last : Nat) : List CpInfo := es.foldr (fun e r => gap e.1 (e.2 :: r)) (gap last [])
def pool (es : List (Nat × CpInfo)) (last : Nat) : Array CpInfo := ⟨poolList es last⟩
def fileOf (pool : Array CpInfo) (this : Nat) (attrs : Array Attribute := #[]) (ms : Array MethodInfo := #[]) (fl : Nat := 33) (sup : Nat := 0) (ifs : Array Nat := #[]) (fds : Array FieldInfo := #[]) : ClassFile where
  minorVersion := 0
  majorVersion := 65
  constantPool := pool
  accessFlags := fl
  thisClass := this
  superClass := sup
  interfaces := ifs
  fields := fds
  methods := ms
  attributes := attrs
def plain (name : String) (sup : Option ClassId) : Class where
  name := name
  kind := .ordinary
  loader := none
  accessFlags := 33
  super := sup
  interfaces := #[]
  cf := none
  fields := #[]
  methods := #[]
  instanceTypes := #[]
  staticTypes := #[]
  resolved := #[]
  callSites := []
  init := .initialized
  statics := none
  mirror := none
def kk (n : String) (s : Option ClassId) (a : Nat) (i : Array ClassId) (f : ClassFile) (fd : Array Field) (ms : Array Method) (it st : Array FieldType) (r : Nat) (z : Option Addr) : Class := { plain n s with accessFlags := a, interfaces := i, cf := some f, fields := fd, methods := ms, instanceTypes := it, staticTypes := st, resolved := Array.replicate r none, statics := z }
def pu (s : String) : Nat × CpInfo := (0, u s)
def pm (a b : Nat) : Nat × CpInfo := (0, .methodref a b)
def pc (a : Nat) : Nat × CpInfo := (0, .class_ a)
def pn (a b : Nat) : Nat × CpInfo := (0, .nameAndType a b)
def pf (a b : Nat) : Nat × CpInfo := (0, .fieldref a b)
def pi (a b : Nat) : Nat × CpInfo := (0, .interfaceMethodref a b)
def pool0 : Array CpInfo := pool [(5, u Q57), pu Q63, (1, .class_ 10), (1, u Q3), pu "getClass", (0, u "()Ljava/lang/Class;"), (14, u Q108), pu Q80] 95
def k0c0 : Code := ⟨0, 1, object_method_1_code, #[], #[]⟩
def k0m0 : Method := ⟨Q57, Q63, ⟨[], none⟩, 1, some k0c0⟩
def k0m1 : Method := ⟨"getClass", "()Ljava/lang/Class;", ⟨[], some (.object Q113)⟩, 273, none⟩
def k0m2 : Method := ⟨Q108, Q80, ⟨[], some .int⟩, 257, none⟩
def k0 : Class := kk Q3 none 33 #[] (fileOf pool0 8 #[] #[⟨1, 5, 6, #[]⟩, ⟨273, 11, 12, #[]⟩, ⟨257, 27, 28, #[]⟩] 33 0 #[] #[]) #[] #[k0m0, k0m1, k0m2] #[] #[] 124 none
def pool1 : Array CpInfo := pool [(2, .class_ 4), pn 5 6, pu Q3, pu Q57, pu Q63, pc 8, pu Q8, pm 7 3, pm 11 12, pc 13, pn 14 15, pu Q10, pu Q122, pu Q103, pm 7 17, pn 18 19, pu "add", pu Q86, pc 21, pu Q11, pm 20 23, pn 5 24, pu Q65, (0, .integer 2147483647), (0, .string 27), pu "P", pm 29 30, pc 31, pn 32 33, pu Q17, pu "cat", pu Q69, pi 35 17, pc 36, pu Q19, (0, .string 38), pu "Q", pc 40, pu Q4, (0, .string 42), pu "p", pm 39 23, pc 45, pu Q1, pm 44 47, pn 5 48, pu Q74, pm 44 50, pn 51 52, pu "fill", pu Q60, pm 44 54, pn 55 56, pu "filledFrom", (0, u "(IIZ)I"), (2, u "law"), (0, u "(IIII)Z")] 6
def k1m0 : Method := ⟨Q57, Q63, ⟨[], none⟩, 1, none⟩
def k1c1 : Code := ⟨4, 3, method_2_code, #[], #[]⟩
def k1m1 : Method := ⟨"cat", Q69, ⟨[(.object Q10), .char], some (.object Q11)⟩, 10, some k1c1⟩
def k1c2 : Code := ⟨7, 23, code, #[], #[]⟩
def k1m2 : Method := ⟨"law", "(IIII)Z", ⟨[.int, .int, .int, .int], some .boolean⟩, 9, some k1c2⟩
def k1 : Class := kk Q17 (some 0) 49 #[] (fileOf pool1 29 #[] #[⟨1, 5, 6, #[]⟩, ⟨10, 32, 33, #[]⟩, ⟨9, 59, 60, #[]⟩] 49 2 #[] #[]) #[] #[k1m0, k1m1, k1m2] #[] #[] 67 none
def pool2 : Array CpInfo := pool [(8, .class_ 10), (1, u "java/lang/Iterable"), (24, .class_ 36), pu Q3] 25
def k2 : Class := kk "java/lang/Iterable" (some 0) 1537 #[] (fileOf pool2 8 #[] #[] 1537 35 #[] #[]) #[] #[] #[] #[] 62 none
def pool3 : Array CpInfo := pool [(10, .class_ 12), (1, u Q76), pu "toArray", (16, u "()Z"), (29, .class_ 61), pu Q3, pc 63, pu "java/lang/Iterable", (2, u "isEmpty"), (3, u Q75)] 44
def k3m0 : Method := ⟨"isEmpty", "()Z", ⟨[], some .boolean⟩, 1025, none⟩
def k3m1 : Method := ⟨"toArray", Q75, ⟨[], some (.array (.object Q3))⟩, 1025, none⟩
def k3 : Class := kk Q76 (some 0) 1537 #[2] (fileOf pool3 10 #[] #[⟨1025, 66, 30, #[]⟩, ⟨1025, 13, 70, #[]⟩] 1537 60 #[62] #[]) #[] #[k3m0, k3m1] #[] #[] 115 none
def pool4 : Array CpInfo := pool [(1, .methodref 2 3), pc 4, pn 5 6, pu Q3, pu Q57, pu Q63, (1, .class_ 10), (1, u Q40), pu Q35, pu Q80, (64, .class_ 78), pu Q76] 81
def k4c0 : Code := ⟨1, 1, C78, #[], #[]⟩
def k4m0 : Method := ⟨Q57, Q63, ⟨[], none⟩, 4, some k4c0⟩
def k4m1 : Method := ⟨Q35, Q80, ⟨[], some .int⟩, 1025, none⟩
def k4 : Class := kk Q40 (some 0) 1057 #[3] (fileOf pool4 8 #[] #[⟨4, 5, 6, #[]⟩, ⟨1025, 11, 12, #[]⟩] 1057 2 #[77] #[]) #[] #[k4m0, k4m1] #[] #[] 160 none
def pool5 : Array CpInfo := pool [(8, .class_ 10), (1, u Q120), (15, .class_ 27), pu Q3, pc 29, pu Q76] 27
def k5 : Class := kk Q120 (some 0) 1537 #[3] (fileOf pool5 8 #[] #[] 1537 26 #[28] #[]) #[] #[] #[] #[] 57 none
def pool6 : Array CpInfo := pool [(8, .class_ 10), (1, u Q19), (37, u Q57), (11, u "add"), (3, u Q86), (10, u "get"), pu Q66, (2, u Q35), pu Q80, (7, u "of"), (2, .class_ 93), (1, u Q18), (2, .class_ 97), pu Q16, (2, .methodref 96 101), pn 48 102, pu Q82, pc 104, pu Q3, (3, u Q68), pm 91 110, pn 111 108, pu Q128, pm 91 113, pn 114 115, pu "listCopy", pu Q61, (4, .class_ 121), pu Q120, (1, u Q109), pu Q70, (109, u Q105)] 16
def k6m0 : Method := ⟨Q35, Q80, ⟨[], some .int⟩, 1025, none⟩
def k6m1 : Method := ⟨Q109, Q70, ⟨[], some (.object Q47)⟩, 1025, none⟩
def k6m2 : Method := ⟨"add", Q86, ⟨[(.object Q3)], some .boolean⟩, 1025, none⟩
def k6m3 : Method := ⟨"get", Q66, ⟨[.int], some (.object Q3)⟩, 1025, none⟩
def k6c4 : Code := ⟨5, 2, C22, #[], #[]⟩
def k6m4 : Method := ⟨"of", Q68, ⟨[(.array (.object Q3))], some (.object Q19)⟩, 137, some k6c4⟩
def k6c5 : Code := ⟨1, 1, C73, #[], #[]⟩
def k6m5 : Method := ⟨Q105, Q61, ⟨[(.object Q76)], some (.object Q19)⟩, 9, some k6c5⟩
def k6 : Class := kk Q19 (some 0) 1537 #[5] (fileOf pool6 8 #[] #[⟨1025, 79, 80, #[]⟩, ⟨1025, 123, 124, #[]⟩, ⟨1025, 60, 64, #[]⟩, ⟨1025, 75, 76, #[]⟩, ⟨137, 88, 108, #[]⟩, ⟨9, 234, 115, #[]⟩] 1537 103 #[120] #[]) #[] #[k6m0, k6m1, k6m2, k6m3, k6m4, k6m5] #[] #[] 251 none
def pool7 : Array CpInfo := pool [(1, .methodref 2 3), pc 4, pn 5 6, pu Q40, pu Q57, pu Q63, pf 8 9, pc 10, pn 11 12, pu Q26, pu Q43, pu "I", (64, .class_ 78), pu "java/util/AbstractList$Itr", (3, .class_ 83), pu "java/util/AbstractList$ListItr", (9, .class_ 94), pu "java/util/AbstractList$RandomAccessSubList", (3, .class_ 99), pu "java/util/AbstractList$SubList", (33, .class_ 134), pu Q19, (73, .class_ 209), pu "java/util/AbstractList$SubList$1", pc 211, pu "java/util/AbstractList$RandomAccessSpliterator"] 6
def k7c0 : Code := ⟨2, 1, C62, #[], #[]⟩
def k7m0 : Method := ⟨Q57, Q63, ⟨[], none⟩, 4, some k7c0⟩
def k7 : Class := kk Q26 (some 4) 1057 #[6] (fileOf pool7 8 #[.nestMembers #[93, 98, 208, 210, 82, 77]] #[⟨4, 5, 6, #[]⟩] 1057 2 #[133] #[⟨132, 11, 12, #[]⟩]) #[⟨Q43, .int, 132, 0, 0⟩] #[k7m0] #[.int] #[] 218 none
def pool8 : Array CpInfo := pool [(1, .class_ 2), pu Q116, pc 4, pu Q3] 2
def k8 : Class := kk Q116 (some 0) 1537 #[] (fileOf pool8 1 #[] #[] 1537 3 #[] #[]) #[] #[] #[] #[] 7 none
def pool9 : Array CpInfo := pool [(1, .class_ 2), pu Q124, pc 4, pu Q3] 2
def k9 : Class := kk Q124 (some 0) 1537 #[] (fileOf pool9 1 #[] #[] 1537 3 #[] #[]) #[] #[] #[] #[] 7 none
def pool10 : Array CpInfo := pool [(1, .class_ 2), pu Q88, pc 4, pu Q3] 2
def k10 : Class := kk Q88 (some 0) 1537 #[] (fileOf pool10 1 #[] #[] 1537 3 #[] #[]) #[] #[] #[] #[] 7 none
def pool11 : Array CpInfo := pool [(1, .methodref 2 3), pc 4, pn 5 6, pu Q26, pu Q57, pu Q63, pc 8, pu Q3, pf 10 11, pc 12, pn 13 14, pu Q8, pu Q55, pu Q7, (2, u Q34), (21, .fieldref 10 40), pn 41 14, pu Q22, (4, u "toArray"), pu Q75, pf 10 49, pn 50 51, pu Q35, pu "I", (6, .class_ 60), (1, u Q42), pu Q105, (1, .fieldref 10 64), pn 65 51, pu Q43, pm 58 67, pn 61 68, pu Q79, pm 10 70, pn 71 72, pu "grow", pu Q117, (6, .methodref 80 81), pc 82, pn 83 84, pu Q93, pu "max", pu Q92, (11, u Q86), (21, .methodref 119 120), pc 121, pn 122 84, pu Q90, pu Q111, pm 10 124, pn 13 125, pu Q66, (3, .methodref 10 130), pn 71 47, pm 10 132, pn 133 134, pu "add", pu Q89, (13, .class_ 149), pu Q19, (16, u Q109), pu Q70, (5, u "()Z"), (12, u Q80), (75, .class_ 263), pu "java/util/ArrayList$ListItr", (3, .class_ 268), pu Q14, pm 267 270, pn 5 271, pu Q96, (4, .class_ 277), pu "java/util/ArrayList$SubList", (12, .class_ 291), pu "java/util/ArrayList$ArrayListSpliterator", (37, .class_ 330), pu Q116, pc 332, pu Q124, pc 334, pu Q88, pu Q87, pu "J", (3, u "DEFAULT_CAPACITY"), (22, u "isEmpty"), (17, u "get"), (118, .class_ 501), pu "java/util/ArrayList$SubList$2", pc 503, pu "java/util/ArrayList$SubList$1"] 5
def k11c0 : Code := ⟨2, 1, C61, #[], #[]⟩
def k11m0 : Method := ⟨Q57, Q63, ⟨[], none⟩, 1, some k11c0⟩
def k11c1 : Code := ⟨4, 4, C21, #[], #[]⟩
def k11m1 : Method := ⟨"grow", Q117, ⟨[.int], some (.array (.object Q3))⟩, 2, some k11c1⟩
def k11c2 : Code := ⟨3, 1, C57, #[], #[]⟩
def k11m2 : Method := ⟨"grow", Q75, ⟨[], some (.array (.object Q3))⟩, 2, some k11c2⟩
def k11c3 : Code := ⟨1, 1, C70, #[], #[]⟩
def k11m3 : Method := ⟨Q35, Q80, ⟨[], some .int⟩, 1, some k11c3⟩
def k11c4 : Code := ⟨1, 1, C63, #[], #[]⟩
def k11m4 : Method := ⟨"isEmpty", "()Z", ⟨[], some .boolean⟩, 1, some k11c4⟩
def k11c5 : Code := ⟨2, 1, C54, #[], #[]⟩
def k11m5 : Method := ⟨"toArray", Q75, ⟨[], some (.array (.object Q3))⟩, 1, some k11c5⟩
def k11c6 : Code := ⟨2, 2, C68, #[], #[]⟩
def k11m6 : Method := ⟨Q55, Q66, ⟨[.int], some (.object Q3)⟩, 0, some k11c6⟩
def k11c7 : Code := ⟨2, 2, C46, #[], #[]⟩
def k11m7 : Method := ⟨"get", Q66, ⟨[.int], some (.object Q3)⟩, 1, some k11c7⟩
def k11c8 : Code := ⟨3, 4, C15, #[], #[]⟩
def k11m8 : Method := ⟨"add", Q89, ⟨[(.object Q3), (.array (.object Q3)), .int], none⟩, 2, some k11c8⟩
def k11c9 : Code := ⟨4, 2, C16, #[], #[]⟩
def k11m9 : Method := ⟨"add", Q86, ⟨[(.object Q3)], some .boolean⟩, 1, some k11c9⟩
def k11c10 : Code := ⟨3, 1, C69, #[], #[]⟩
def k11m10 : Method := ⟨Q109, Q70, ⟨[], some (.object Q47)⟩, 1, some k11c10⟩
def k11 : Class := kk Q8 (some 7) 33 #[6, 8, 9, 10] (fileOf pool11 10 #[.nestMembers #[290, 276, 500, 502, 262, 267]] #[⟨1, 5, 6, #[]⟩, ⟨2, 71, 72, #[]⟩, ⟨2, 71, 47, #[]⟩, ⟨1, 50, 186, #[]⟩, ⟨1, 363, 173, #[]⟩, ⟨1, 46, 47, #[]⟩, ⟨0, 13, 125, #[]⟩, ⟨1, 381, 125, #[]⟩, ⟨2, 133, 134, #[]⟩, ⟨1, 133, 96, #[]⟩, ⟨1, 166, 167, #[]⟩] 33 2 #[148, 329, 331, 333] #[⟨26, 335, 336, #[]⟩, ⟨26, 340, 51, #[]⟩, ⟨26, 17, 14, #[]⟩, ⟨26, 41, 14, #[]⟩, ⟨128, 13, 14, #[]⟩, ⟨2, 50, 51, #[]⟩]) #[⟨Q87, .long, 26, 0, 0⟩, ⟨"DEFAULT_CAPACITY", .int, 26, 1, 0⟩, ⟨Q34, (.array (.object Q3)), 26, 2, 0⟩, ⟨Q22, (.array (.object Q3)), 26, 3, 0⟩, ⟨Q55, (.array (.object Q3)), 128, 1, 0⟩, ⟨Q35, .int, 2, 2, 0⟩] #[k11m0, k11m1, k11m2, k11m3, k11m4, k11m5, k11m6, k11m7, k11m8, k11m9, k11m10] #[.int, (.array (.object Q3)), .int] #[.long, .int, (.array (.object Q3)), (.array (.object Q3))] 509 (some 0)
def pool12 : Array CpInfo := pool [(1, .class_ 2), pu Q123, pc 4, pu Q3] 7
def k12 : Class := kk Q123 (some 0) 1537 #[] (fileOf pool12 1 #[] #[] 1537 3 #[] #[]) #[] #[] #[] #[] 12 none
def pool13 : Array CpInfo := pool [(2, .class_ 4), (1, u Q131), (42, .class_ 48), pu "java/lang/CharSequence$1CodePointIterator", (10, .class_ 60), pu "java/lang/CharSequence$1CharIterator", (5, .class_ 67), pu Q3] 63
def k13 : Class := kk Q131 (some 0) 1537 #[] (fileOf pool13 2 #[.nestMembers #[47, 59]] #[] 1537 66 #[] #[]) #[] #[] #[] #[] 131 none
def pool14 : Array CpInfo := pool [(1, .class_ 2), pu Q99, pc 4, pu Q3] 6
def k14 : Class := kk Q99 (some 0) 1537 #[] (fileOf pool14 1 #[] #[] 1537 3 #[] #[]) #[] #[] #[] #[] 11 none
def pool15 : Array CpInfo := pool [(1, .class_ 2), pu Q94, pc 4, pu Q3] 32
def k15 : Class := kk Q94 (some 0) 1537 #[] (fileOf pool15 1 #[] #[] 1537 3 #[] #[]) #[] #[] #[] #[] 37 none
def pool16 : Array CpInfo := pool [(1, .methodref 2 3), pc 4, pn 5 6, pu Q3, pu Q57, pu Q63, (2, .fieldref 10 11), pc 12, pn 13 14, pu Q10, pu Q49, pu "[B", pf 10 16, pn 17 18, pu "coder", pu "B", pf 10 20, pn 21 22, pu "hash", pu "I", pf 10 24, pn 25 26, pu "hashIsZero", pu "Z", (11, .fieldref 10 39), pn 40 26, pu Q39, (12, u "toBytes"), (53, .class_ 109), (1, u Q78), (32, u "()Z"), (66, .methodref 10 210), pn 5 211, (0, u "([BB)V"), (122, u Q80), (34, u "(C)Z"), (122, .methodref 10 493), pn 494 142, pu "isLatin1", (80, .class_ 576), pu Q131, (22, u "CASE_INSENSITIVE_ORDER"), pu "Ljava/util/Comparator;", (27, .methodref 107 629), pn 630 631, pu Q108, (0, u "([B)I"), (150, u Q122), pu Q103, (231, .methodref 107 1016), pn 1017 369, pu "canEncode", pm 107 1019, pn 53 1020, (0, u "(C)[B"), (80, u "serialPersistentFields"), pu "[Ljava/io/ObjectStreamField;", pc 1104, pu "java/lang/String$CaseInsensitiveComparator", (1, .class_ 1107), pu Q88, pc 1109, pu Q123, pc 1111, pu Q99, pc 1113, pu Q94, (2, u Q87), pu "J", (3, u "REPL"), pu "C", (2, u "LATIN1"), (1, u "UTF16")] 323
def k16m0 : Method := ⟨Q57, Q63, ⟨[], none⟩, 1, none⟩
def k16c1 : Code := ⟨2, 2, C8, #[], #[]⟩
def k16m1 : Method := ⟨Q108, Q80, ⟨[], some .int⟩, 1, some k16c1⟩
def k16c2 : Code := ⟨4, 1, C20, #[], #[]⟩
def k16m2 : Method := ⟨Q122, Q103, ⟨[.char], some (.object Q10)⟩, 9, some k16c2⟩
def k16c3 : Code := ⟨2, 3, C43, #[], #[]⟩
def k16m3 : Method := ⟨Q57, "([BB)V", ⟨[(.array .byte), .byte], none⟩, 0, some k16c3⟩
def k16c4 : Code := ⟨1, 1, C48, #[], #[]⟩
def k16m4 : Method := ⟨"isLatin1", "()Z", ⟨[], some .boolean⟩, 0, some k16c4⟩
def k16 : Class := kk Q10 (some 0) 49 #[10, 12, 13, 14, 15] (fileOf pool16 10 #[.nestMembers #[1103]] #[⟨1, 5, 6, #[]⟩, ⟨1, 630, 334, #[]⟩, ⟨9, 782, 783, #[]⟩, ⟨0, 5, 211, #[]⟩, ⟨0, 494, 142, #[]⟩] 49 2 #[1106, 1108, 575, 1110, 1112] #[⟨18, 13, 14, #[]⟩, ⟨18, 17, 18, #[]⟩, ⟨2, 21, 22, #[]⟩, ⟨2, 25, 26, #[]⟩, ⟨26, 1116, 1117, #[]⟩, ⟨24, 40, 26, #[]⟩, ⟨26, 1101, 1102, #[]⟩, ⟨26, 1121, 1122, #[]⟩, ⟨25, 599, 600, #[]⟩, ⟨24, 1125, 18, #[]⟩, ⟨24, 1127, 18, #[]⟩]) #[⟨Q49, (.array .byte), 18, 0, 0⟩, ⟨"coder", .byte, 18, 1, 0⟩, ⟨"hash", .int, 2, 2, 0⟩, ⟨"hashIsZero", .boolean, 2, 3, 0⟩, ⟨Q87, .long, 26, 0, 0⟩, ⟨Q39, .boolean, 24, 1, 0⟩, ⟨"serialPersistentFields", (.array (.object "java/io/ObjectStreamField")), 26, 2, 0⟩, ⟨"REPL", .char, 26, 3, 0⟩, ⟨"CASE_INSENSITIVE_ORDER", (.object "java/util/Comparator"), 25, 4, 0⟩, ⟨"LATIN1", .byte, 24, 5, 0⟩, ⟨"UTF16", .byte, 24, 6, 0⟩] #[k16m0, k16m1, k16m2, k16m3, k16m4] #[(.array .byte), .byte, .int, .boolean] #[.long, .boolean, (.array (.object "java/io/ObjectStreamField")), .char, (.object "java/util/Comparator"), .byte, .byte] 1451 (some 1)
def pool17 : Array CpInfo := pool [(4, .class_ 6), (1, u Q3), pu Q57, pu Q63, (5, .class_ 16), (1, u Q78), (40, u "([B)I"), (32, u "canEncode"), (14, u "(C)Z"), (15, u Q81), pu "Z", (98, .class_ 223), (1, u "java/lang/StringLatin1$LinesSpliterator"), (74, u Q108), (81, u "toBytes"), (1, u "(C)[B"), (7, .class_ 391), pu "java/lang/StringLatin1$CharsSpliterator"] 3
def k17m0 : Method := ⟨Q57, Q63, ⟨[], none⟩, 0, none⟩
def k17c1 : Code := ⟨2, 1, C41, #[], #[]⟩
def k17m1 : Method := ⟨"canEncode", "(C)Z", ⟨[.char], some .boolean⟩, 9, some k17c1⟩
def k17c2 : Code := ⟨5, 1, C28, #[], #[]⟩
def k17m2 : Method := ⟨Q108, "([B)I", ⟨[(.array .byte)], some .int⟩, 9, some k17c2⟩
def k17c3 : Code := ⟨4, 1, C35, #[], #[]⟩
def k17m3 : Method := ⟨"toBytes", "(C)[B", ⟨[.char], some (.array .byte)⟩, 9, some k17c3⟩
def k17 : Class := kk Q78 (some 0) 48 #[] (fileOf pool17 14 #[.nestMembers #[390, 221]] #[⟨0, 7, 8, #[]⟩, ⟨9, 90, 105, #[]⟩, ⟨9, 298, 57, #[]⟩, ⟨9, 380, 382, #[]⟩] 48 4 #[] #[⟨4120, 121, 122, #[]⟩]) #[⟨Q81, .boolean, 4120, 0, 0⟩] #[k17m0, k17m1, k17m2, k17m3] #[] #[.boolean] 395 none
def pool18 : Array CpInfo := pool [(1, .class_ 2), pu Q93, (1, .class_ 6), (1, u Q3), pu Q57, pu Q63, (89, .class_ 100), (1, u "java/lang/Math$RandomNumberGeneratorHolder"), (71, u "negativeZeroFloatBits"), pu "J", (2, u "negativeZeroDoubleBits"), (21, u "max"), (2, u "min"), (43, u Q81), pu "Z", (88, u Q92), (2, u "twoToTheDoubleScaleDown"), pu "D", (4, u "twoToTheDoubleScaleUp"), (9, u "E"), (3, u "PI"), (2, u "TAU"), (2, u "DEGREES_TO_RADIANS"), pu "RADIANS_TO_DEGREES"] 94
def k18m0 : Method := ⟨Q57, Q63, ⟨[], none⟩, 2, none⟩
def k18c1 : Code := ⟨2, 2, C50, #[], #[]⟩
def k18m1 : Method := ⟨"max", Q92, ⟨[.int, .int], some .int⟩, 9, some k18c1⟩
def k18c2 : Code := ⟨2, 2, C45, #[], #[]⟩
def k18m2 : Method := ⟨"min", Q92, ⟨[.int, .int], some .int⟩, 9, some k18c2⟩
def k18 : Class := kk Q93 (some 0) 49 #[] (fileOf pool18 1 #[.nestMembers #[98]] #[⟨2, 7, 8, #[]⟩, ⟨9, 198, 335, #[]⟩, ⟨9, 201, 335, #[]⟩] 49 4 #[] #[⟨25, 354, 339, #[]⟩, ⟨25, 358, 339, #[]⟩, ⟨25, 361, 339, #[]⟩, ⟨26, 364, 339, #[]⟩, ⟨26, 365, 339, #[]⟩, ⟨26, 172, 173, #[]⟩, ⟨26, 176, 173, #[]⟩, ⟨8, 344, 339, #[]⟩, ⟨8, 338, 339, #[]⟩, ⟨4120, 245, 246, #[]⟩]) #[⟨"E", .double, 25, 0, 0⟩, ⟨"PI", .double, 25, 1, 0⟩, ⟨"TAU", .double, 25, 2, 0⟩, ⟨"DEGREES_TO_RADIANS", .double, 26, 3, 0⟩, ⟨"RADIANS_TO_DEGREES", .double, 26, 4, 0⟩, ⟨"negativeZeroFloatBits", .long, 26, 5, 0⟩, ⟨"negativeZeroDoubleBits", .long, 26, 6, 0⟩, ⟨"twoToTheDoubleScaleUp", .double, 8, 7, 0⟩, ⟨"twoToTheDoubleScaleDown", .double, 8, 8, 0⟩, ⟨Q81, .boolean, 4120, 9, 0⟩] #[k18m0, k18m1, k18m2] #[] #[.double, .double, .double, .double, .double, .long, .long, .double, .double, .boolean] 460 none
def pool19 : Array CpInfo := pool [(1, .methodref 2 3), pc 4, pn 5 6, pu Q3, pu Q57, pu Q63, pc 8, pu Q112] 13
def k19c0 : Code := ⟨1, 1, C79, #[], #[]⟩
def k19m0 : Method := ⟨Q57, Q63, ⟨[], none⟩, 4, some k19c0⟩
def k19 : Class := kk Q112 (some 0) 1057 #[] (fileOf pool19 7 #[] #[⟨4, 5, 6, #[]⟩] 1057 2 #[] #[]) #[] #[k19m0] #[] #[] 22 none
def pool20 : Array CpInfo := pool [(1, .methodref 2 3), pc 4, pn 5 6, pu Q112, pu Q57, pu Q63, pi 8 9, pc 10, pn 11 12, pu Q19, pu Q105, pu Q61, pf 14 15, pc 16, pn 17 18, pu Q11, pu "name", pu Q33, pf 14 20, pn 21 22, pu Q32, pu Q21, (14, u Q65), (7, u Q114)] 22
def k20c0 : Code := ⟨2, 3, C38, #[], #[]⟩
def k20m0 : Method := ⟨Q57, Q65, ⟨[(.object Q10), (.object Q19)], none⟩, 1, some k20c0⟩
def k20c1 : Code := ⟨1, 1, C83, #[], #[]⟩
def k20m1 : Method := ⟨Q32, Q114, ⟨[], some (.object Q19)⟩, 1, some k20c1⟩
def k20 : Class := kk Q11 (some 19) 49 #[] (fileOf pool20 14 #[] #[⟨1, 5, 37, #[]⟩, ⟨1, 21, 45, #[]⟩] 49 2 #[] #[⟨18, 17, 18, #[]⟩, ⟨18, 21, 22, #[]⟩]) #[⟨"name", (.object Q10), 18, 0, 0⟩, ⟨Q32, (.object Q19), 18, 1, 0⟩] #[k20m0, k20m1] #[(.object Q10), (.object Q19)] #[] 68 none
def pool21 : Array CpInfo := pool [(2, .class_ 4), (1, u Q3), pu Q57, pu Q63, (3, .class_ 11), pu Q16, pc 13, pu Q13, (3, u "Z"), pc 19, pu Q19, pi 21 22, pc 23, pn 24 25, pu Q76, pu "isEmpty", (0, u "()Z"), (2, u "of"), (1, .interfaceMethodref 21 31), pn 32 33, pu "toArray", pu Q75, pi 18 35, pn 28 36, pu Q68, pm 38 39, pc 40, pn 41 42, pu Q90, pu Q118, pu Q72, pm 12 44, pn 5 45, pu Q98, (1, .class_ 49), (1, u Q18), pu Q81, (5, u Q7), (5, u Q56), pu Q27, (8, u "EMPTY_LIST_NULLS"), (22, u "SALT32L"), pu "J", (2, u "REVERSE"), (6, u "archivedObjects"), (2, u "EMPTY"), pu Q20, pc 112, pu Q106, (5, u "EMPTY_SET"), pu "Ljava/util/ImmutableCollections$SetN;", pc 121, pu Q107, (3, u "EMPTY_MAP"), pu "Ljava/util/ImmutableCollections$MapN;", (4, u "EXPAND_FACTOR"), pu "I", (9, u "listCopy"), pu Q61, (7, u Q128), (17, .class_ 170), pu "java/util/ImmutableCollections$MapN$MapNIterator", pc 172, pu "java/util/ImmutableCollections$MapN$1", pc 174, pu "java/util/ImmutableCollections$Map1", pc 176, pu "java/util/ImmutableCollections$AbstractImmutableMap", pc 178, pu "java/util/ImmutableCollections$SetN$SetNIterator", pc 180, pu "java/util/ImmutableCollections$Set12", pc 182, pu "java/util/ImmutableCollections$Set12$1", pc 184, pu "java/util/ImmutableCollections$AbstractImmutableSet", pc 186, pu "java/util/ImmutableCollections$SubList", pc 188, pu Q9, pc 190, pu Q23, pc 192, pu Q45, pc 194, pu "java/util/ImmutableCollections$Access", pc 196, pu "java/util/ImmutableCollections$Access$1"] 16
def k21m0 : Method := ⟨Q57, Q63, ⟨[], none⟩, 2, none⟩
def k21c1 : Code := ⟨1, 2, C33, #[], #[]⟩
def k21m1 : Method := ⟨"listCopy", Q61, ⟨[(.object Q76)], some (.object Q19)⟩, 8, some k21c1⟩
def k21c2 : Code := ⟨4, 3, C12, #[], #[]⟩
def k21m2 : Method := ⟨Q128, Q68, ⟨[(.array (.object Q3))], some (.object Q19)⟩, 136, some k21c2⟩
def k21 : Class := kk Q18 (some 0) 32 #[] (fileOf pool21 47 #[.nestMembers #[120, 169, 171, 173, 175, 111, 177, 179, 181, 183, 12, 10, 185, 187, 189, 191, 193, 195]] #[⟨2, 5, 6, #[]⟩, ⟨8, 142, 143, #[]⟩, ⟨136, 151, 36, #[]⟩] 32 2 #[] #[⟨26, 95, 96, #[]⟩, ⟨26, 99, 17, #[]⟩, ⟨10, 106, 56, #[]⟩, ⟨26, 109, 110, #[]⟩, ⟨24, 62, 63, #[]⟩, ⟨24, 72, 63, #[]⟩, ⟨24, 118, 119, #[]⟩, ⟨24, 125, 126, #[]⟩, ⟨24, 131, 132, #[]⟩, ⟨4120, 50, 17, #[]⟩]) #[⟨"SALT32L", .long, 26, 0, 0⟩, ⟨"REVERSE", .boolean, 26, 1, 0⟩, ⟨"archivedObjects", (.array (.object Q3)), 10, 2, 0⟩, ⟨"EMPTY", (.object Q3), 26, 3, 0⟩, ⟨Q56, (.object Q13), 24, 4, 0⟩, ⟨"EMPTY_LIST_NULLS", (.object Q13), 24, 5, 0⟩, ⟨"EMPTY_SET", (.object Q106), 24, 6, 0⟩, ⟨"EMPTY_MAP", (.object Q107), 24, 7, 0⟩, ⟨"EXPAND_FACTOR", .int, 24, 8, 0⟩, ⟨Q81, .boolean, 4120, 9, 0⟩] #[k21m0, k21m1, k21m2] #[] #[.long, .boolean, (.array (.object Q3)), (.object Q3), (.object Q13), (.object Q13), (.object Q106), (.object Q107), .int, .boolean] 213 (some 2)
def pool22 : Array CpInfo := pool [(1, .methodref 2 3), pc 4, pn 5 6, pu Q40, pu Q57, pu Q63, (1, .class_ 10), (1, u Q18), (2, .class_ 14), pu Q45] 41
def k22c0 : Code := ⟨1, 1, C81, #[], #[]⟩
def k22m0 : Method := ⟨Q57, Q63, ⟨[], none⟩, 0, some k22c0⟩
def k22 : Class := kk Q45 (some 4) 1056 #[] (fileOf pool22 13 #[.nestHost 8] #[⟨0, 5, 6, #[]⟩] 1056 2 #[] #[]) #[] #[k22m0] #[] #[] 56 none
def pool23 : Array CpInfo := pool [(1, .methodref 2 3), pc 4, pn 5 6, pu Q45, pu Q57, pu Q63, (1, .class_ 10), (1, u Q18), (2, .methodref 14 15), pc 16, pn 17 18, pu Q23, pu Q35, pu Q80, (42, .class_ 62), pu Q9, pm 61 64, pn 5 65, pu Q110, (11, .class_ 78), pu Q19, (2, u Q109), pu Q70, (41, .class_ 125), pu Q116] 70
def k23c0 : Code := ⟨1, 1, C80, #[], #[]⟩
def k23m0 : Method := ⟨Q57, Q63, ⟨[], none⟩, 0, some k23c0⟩
def k23c1 : Code := ⟨4, 1, C56, #[], #[]⟩
def k23m1 : Method := ⟨Q109, Q70, ⟨[], some (.object Q47)⟩, 1, some k23c1⟩
def k23 : Class := kk Q23 (some 22) 1056 #[6, 8] (fileOf pool23 14 #[.nestHost 8] #[⟨0, 5, 6, #[]⟩, ⟨1, 81, 82, #[]⟩] 1056 2 #[77, 124] #[]) #[] #[k23m0, k23m1] #[] #[] 196 none
def pool24 : Array CpInfo := pool [(1, .methodref 2 3), pc 4, pn 5 6, pu Q23, pu Q57, pu Q63, pm 8 9, pc 10, pn 11 12, pu Q90, pu Q118, pu Q72, pf 14 15, pc 16, pn 17 18, pu Q16, pu "e0", pu Q20, pf 20 21, pc 22, pn 23 18, pu Q18, pu "EMPTY", pf 14 25, pn 26 18, pu "e1", (24, u Q35), pu Q80, (17, .class_ 71), pu Q88, (13, u Q82)] 39
def k24c0 : Code := ⟨2, 3, C42, #[], #[]⟩
def k24m0 : Method := ⟨Q57, Q82, ⟨[(.object Q3), (.object Q3)], none⟩, 0, some k24c0⟩
def k24c1 : Code := ⟨2, 1, C59, #[], #[]⟩
def k24m1 : Method := ⟨Q35, Q80, ⟨[], some .int⟩, 1, some k24c1⟩
def k24 : Class := kk Q16 (some 23) 48 #[10] (fileOf pool24 14 #[.nestHost 20] #[⟨0, 5, 85, #[]⟩, ⟨1, 51, 52, #[]⟩] 48 2 #[70] #[⟨18, 17, 18, #[]⟩, ⟨18, 26, 18, #[]⟩]) #[⟨"e0", (.object Q3), 18, 0, 0⟩, ⟨"e1", (.object Q3), 18, 1, 0⟩] #[k24m0, k24m1] #[(.object Q3), (.object Q3)] #[] 125 none
def pool25 : Array CpInfo := pool [(1, .methodref 2 3), pc 4, pn 5 6, pu Q23, pu Q57, pu Q63, pf 8 9, pc 10, pn 11 12, pu Q13, pu Q32, pu Q7, pf 8 14, pn 15 16, pu "allowNulls", pu "Z", (42, .class_ 60), pu Q88, (4, u Q98), (11, u Q35), pu Q80, pu "get", pu Q66, (33, .class_ 115), pu Q18] 3
def k25c0 : Code := ⟨2, 3, C47, #[], #[]⟩
def k25m0 : Method := ⟨Q57, Q98, ⟨[(.array (.object Q3)), .boolean], none⟩, 2, some k25c0⟩
def k25c1 : Code := ⟨1, 1, C76, #[], #[]⟩
def k25m1 : Method := ⟨Q35, Q80, ⟨[], some .int⟩, 1, some k25c1⟩
def k25c2 : Code := ⟨2, 2, C58, #[], #[]⟩
def k25m2 : Method := ⟨"get", Q66, ⟨[.int], some (.object Q3)⟩, 1, some k25c2⟩
def k25 : Class := kk Q13 (some 23) 48 #[10] (fileOf pool25 8 #[.nestHost 114] #[⟨2, 5, 65, #[]⟩, ⟨1, 77, 78, #[]⟩, ⟨1, 79, 80, #[]⟩] 48 2 #[59] #[⟨18, 11, 12, #[]⟩, ⟨18, 15, 16, #[]⟩]) #[⟨Q32, (.array (.object Q3)), 18, 0, 0⟩, ⟨"allowNulls", .boolean, 18, 1, 0⟩] #[k25m0, k25m1, k25m2] #[(.array (.object Q3)), .boolean] #[] 119 none
def pool26 : Array CpInfo := pool [(2, .class_ 4), (1, u Q3), pu Q57, pu Q63, pm 8 9, pc 10, pn 11 12, pu Q51, pu "sort", (0, u "([IIII)V"), (1, .class_ 16), (1, u Q42), (57, .class_ 76), (1, u "java/util/Arrays$NaturalOrder"), (9, .methodref 2 87), pn 88 89, pu "getClass", (0, u "()Ljava/lang/Class;"), (20, .class_ 111), pu Q7, (1, .class_ 115), (1, u "java/util/Arrays$LegacyMergeSort"), (1, u "Z"), (32, .methodref 151 152), pc 153, pn 154 155, pu "java/lang/System", pu "arraycopy", pu Q95, (144, .methodref 14 301), pn 302 303, pu Q105, pu Q73, pm 305 306, pc 307, pn 308 309, pu Q93, pu "min", pu Q92, (65, .class_ 376), pu "java/util/Arrays$ArrayList", (68, u Q81), (269, u "MIN_ARRAY_SORT_GRAN"), pu "I", (2, u "INSERTIONSORT_THRESHOLD"), (6, u "([I)V"), (113, u "fill"), (0, u "([JJ)V"), (3, u "([II)V"), (14, u Q79), (114, .class_ 976), pu "java/util/Arrays$ArrayItr"] 52
def k26m0 : Method := ⟨Q57, Q63, ⟨[], none⟩, 2, none⟩
def k26c1 : Code := ⟨4, 1, C60, #[], #[]⟩
def k26m1 : Method := ⟨"sort", "([I)V", ⟨[(.array .int)], none⟩, 9, some k26c1⟩
def k26c2 : Code := ⟨4, 5, C26, #[], #[]⟩
def k26m2 : Method := ⟨"fill", "([JJ)V", ⟨[(.array .long), .long], none⟩, 9, some k26c2⟩
def k26c3 : Code := ⟨3, 4, C25, #[], #[]⟩
def k26m3 : Method := ⟨"fill", "([II)V", ⟨[(.array .int), .int], none⟩, 9, some k26c3⟩
def k26c4 : Code := ⟨3, 2, C52, #[], #[]⟩
def k26m4 : Method := ⟨Q105, Q79, ⟨[(.array (.object Q3)), .int], some (.array (.object Q3))⟩, 9, some k26c4⟩
def k26c5 : Code := ⟨6, 4, C17, #[], #[]⟩
def k26m5 : Method := ⟨Q105, Q73, ⟨[(.array (.object Q3)), .int, (.object Q113)], some (.array (.object Q3))⟩, 9, some k26c5⟩
def k26 : Class := kk Q42 (some 0) 49 #[] (fileOf pool26 14 #[.nestMembers #[975, 375, 113, 74]] #[⟨2, 5, 6, #[]⟩, ⟨9, 11, 726, #[]⟩, ⟨9, 840, 841, #[]⟩, ⟨9, 840, 845, #[]⟩, ⟨9, 302, 860, #[]⟩, ⟨9, 302, 303, #[]⟩] 49 2 #[] #[⟨26, 715, 716, #[]⟩, ⟨26, 719, 716, #[]⟩, ⟨4120, 445, 117, #[]⟩]) #[⟨"MIN_ARRAY_SORT_GRAN", .int, 26, 0, 0⟩, ⟨"INSERTIONSORT_THRESHOLD", .int, 26, 1, 0⟩, ⟨Q81, .boolean, 4120, 2, 0⟩] #[k26m0, k26m1, k26m2, k26m3, k26m4, k26m5] #[] #[.int, .int, .boolean] 1029 none
def pool27 : Array CpInfo := pool [(2, .class_ 4), (1, u Q3), pu Q57, pu Q63, (1, .class_ 10), (1, u "java/lang/System"), pu "allowSecurityManager", pu "I", (16, u "cons"), pu "Ljava/io/Console;", (77, .class_ 110), (1, u "java/lang/System$CallersHolder"), (43, u "initialErrStream"), pu "Ljava/io/PrintStream;", (19, u "security"), pu "Ljava/lang/SecurityManager;", (31, .class_ 209), pu "java/lang/System$1", (7, u "props"), pu "Ljava/util/Properties;", (2, u "lineSeparator"), pu Q33, (96, .class_ 321), (1, u "java/lang/System$LoggerFinder"), (5, .class_ 328), pu "java/lang/System$Logger", (67, u "err"), (2, u "out"), (91, u "notSupportedJnuEncoding"), (15, u "in"), (17, u "initialIn"), pu "Ljava/io/InputStream;", (35, u "bootLayer"), pu "Ljava/lang/ModuleLayer;", (99, .class_ 664), pu "java/lang/System$2", (9, u "NEVER"), (2, u "MAYBE"), (49, u "arraycopy"), pu Q95, (72, .class_ 802), pu "java/lang/System$Logger$Level"] 31
def k27m0 : Method := ⟨Q57, Q63, ⟨[], none⟩, 2, none⟩
def k27m1 : Method := ⟨"arraycopy", Q95, ⟨[(.object Q3), .int, (.object Q3), .int, .int], none⟩, 265, none⟩
def k27 : Class := kk "java/lang/System" (some 0) 49 #[] (fileOf pool27 8 #[.nestMembers #[319, 327, 801, 108, 663, 208]] #[⟨2, 5, 6, #[]⟩, ⟨265, 727, 728, #[]⟩] 49 2 #[] #[⟨25, 507, 526, #[]⟩, ⟨25, 399, 155, #[]⟩, ⟨25, 396, 155, #[]⟩, ⟨10, 525, 526, #[]⟩, ⟨26, 674, 12, #[]⟩, ⟨26, 677, 12, #[]⟩, ⟨10, 11, 12, #[]⟩, ⟨74, 175, 176, #[]⟩, ⟨10, 491, 222, #[]⟩, ⟨74, 29, 30, #[]⟩, ⟨74, 154, 155, #[]⟩, ⟨10, 217, 218, #[]⟩, ⟨10, 221, 222, #[]⟩, ⟨8, 562, 563, #[]⟩]) #[⟨"in", (.object Q125), 25, 0, 0⟩, ⟨"out", (.object Q97), 25, 1, 0⟩, ⟨"err", (.object Q97), 25, 2, 0⟩, ⟨"initialIn", (.object Q125), 10, 3, 0⟩, ⟨"NEVER", .int, 26, 4, 0⟩, ⟨"MAYBE", .int, 26, 5, 0⟩, ⟨"allowSecurityManager", .int, 10, 6, 0⟩, ⟨"security", (.object "java/lang/SecurityManager"), 74, 7, 0⟩, ⟨"notSupportedJnuEncoding", (.object Q10), 10, 8, 0⟩, ⟨"cons", (.object "java/io/Console"), 74, 9, 0⟩, ⟨"initialErrStream", (.object Q97), 74, 10, 0⟩, ⟨"props", (.object "java/util/Properties"), 10, 11, 0⟩, ⟨"lineSeparator", (.object Q10), 10, 12, 0⟩, ⟨"bootLayer", (.object "java/lang/ModuleLayer"), 8, 13, 0⟩] #[k27m0, k27m1] #[] #[(.object Q125), (.object Q97), (.object Q97), (.object Q125), .int, .int, .int, (.object "java/lang/SecurityManager"), (.object Q10), (.object "java/io/Console"), (.object Q97), (.object "java/util/Properties"), (.object Q10), (.object "java/lang/ModuleLayer")] 834 none
def pool28 : Array CpInfo := pool [(2, .class_ 4), (1, u Q3), pu Q57, pu Q63, (35, .class_ 44), (1, u Q90), pu Q118, pu Q72, (58, .methodref 106 107), pc 108, pn 109 110, pu Q91, pu Q111, pu Q84, (60, u Q92)] 12
def k28m0 : Method := ⟨Q57, Q63, ⟨[], none⟩, 2, none⟩
def k28c1 : Code := ⟨2, 1, C74, #[], #[]⟩
def k28m1 : Method := ⟨Q118, Q72, ⟨[(.object Q3)], some (.object Q3)⟩, 9, some k28c1⟩
def k28c2 : Code := ⟨3, 2, C67, #[], #[]⟩
def k28m2 : Method := ⟨Q111, Q92, ⟨[.int, .int], some .int⟩, 9, some k28c2⟩
def k28 : Class := kk Q90 (some 0) 49 #[] (fileOf pool28 42 #[] #[⟨2, 5, 6, #[]⟩, ⟨9, 45, 46, #[]⟩, ⟨9, 109, 171, #[]⟩] 49 2 #[] #[]) #[] #[k28m0, k28m1, k28m2] #[] #[] 184 none
def pool29 : Array CpInfo := pool [(1, .methodref 2 3), pc 4, pn 5 6, pu Q3, pu Q57, pu Q63, pc 8, pu Q15, pm 7 3, pf 11 12, pc 13, pn 14 15, pu Q4, pu Q32, pu Q52, pc 17, pu Q8, pm 16 3, pf 11 20, pn 21 22, pu "clues", pu Q21, pf 11 24, pn 25 26, pu "id", pu Q33, pi 28 29, pc 30, pn 31 32, pu Q19, pu Q105, pu Q61, pf 11 34, pn 35 22, pu Q46, pi 28 37, pn 38 39, pu "get", pu Q66, pc 41, pu Q11, pm 40 43, pn 14 44, pu Q114, pi 28 46, pn 47 48, pu Q35, pu Q80, pf 11 50, pn 47 51, pu "I", pc 53, pu Q10, pf 11 55, pn 56 57, pu "labels", pu Q41, pi 28 59, pn 60 61, pu Q109, pu Q70, pi 63 64, pc 65, pn 66 67, pu Q47, pu Q115, (0, u "()Z"), pi 63 69, pn 70 71, pu "next", pu Q83, pm 73 74, pc 75, pn 76 77, pu Q24, pu Q122, pu Q100, pi 79 80, pc 81, pn 82 83, pu Q101, pu "put", pu Q62, (85, u "(I)I"), (13, u "category"), (2, u "line"), pu Q92, (59, u "MAX_CATEGORIES"), (2, u "MAX_ELEMENTS"), (1, u "MAX_RECORD"), (5, u Q65), (17, u Q129), pu Q133, (1, u "position"), (1, u "lineCount")] 33
def k29c0 : Code := ⟨3, 8, C2, #[], #[]⟩
def k29m0 : Method := ⟨Q57, Q65, ⟨[(.object Q10), (.object Q19)], none⟩, 0, some k29c0⟩
def k29c1 : Code := ⟨1, 1, C77, #[], #[]⟩
def k29m1 : Method := ⟨Q35, Q80, ⟨[], some .int⟩, 0, some k29c1⟩
def k29c2 : Code := ⟨1, 1, C71, #[], #[]⟩
def k29m2 : Method := ⟨Q129, Q80, ⟨[], some .int⟩, 0, some k29c2⟩
def k29c3 : Code := ⟨1, 1, C72, #[], #[]⟩
def k29m3 : Method := ⟨Q133, Q80, ⟨[], some .int⟩, 0, some k29c3⟩
def k29c4 : Code := ⟨2, 2, C65, #[], #[]⟩
def k29m4 : Method := ⟨"category", "(I)I", ⟨[.int], some .int⟩, 0, some k29c4⟩
def k29c5 : Code := ⟨2, 2, C66, #[], #[]⟩
def k29m5 : Method := ⟨"position", "(I)I", ⟨[.int], some .int⟩, 0, some k29c5⟩
def k29c6 : Code := ⟨2, 3, C44, #[], #[]⟩
def k29m6 : Method := ⟨"line", Q92, ⟨[.int, .int], some .int⟩, 0, some k29c6⟩
def k29c7 : Code := ⟨2, 1, C49, #[], #[]⟩
def k29m7 : Method := ⟨"lineCount", Q80, ⟨[], some .int⟩, 0, some k29c7⟩
def k29 : Class := kk Q4 (some 0) 49 #[] (fileOf pool29 11 #[] #[⟨0, 5, 258, #[]⟩, ⟨0, 47, 48, #[]⟩, ⟨0, 276, 48, #[]⟩, ⟨0, 277, 48, #[]⟩, ⟨0, 183, 169, #[]⟩, ⟨0, 279, 169, #[]⟩, ⟨0, 186, 187, #[]⟩, ⟨0, 281, 48, #[]⟩] 49 2 #[] #[⟨24, 247, 51, #[]⟩, ⟨24, 250, 51, #[]⟩, ⟨24, 252, 51, #[]⟩, ⟨18, 25, 26, #[]⟩, ⟨18, 35, 22, #[]⟩, ⟨18, 47, 51, #[]⟩, ⟨18, 56, 57, #[]⟩, ⟨18, 14, 15, #[]⟩, ⟨18, 21, 22, #[]⟩]) #[⟨"MAX_CATEGORIES", .int, 24, 0, 0⟩, ⟨"MAX_ELEMENTS", .int, 24, 1, 0⟩, ⟨"MAX_RECORD", .int, 24, 2, 0⟩, ⟨"id", (.object Q10), 18, 0, 0⟩, ⟨Q46, (.object Q19), 18, 1, 0⟩, ⟨Q35, .int, 18, 2, 0⟩, ⟨"labels", (.array (.object Q10)), 18, 3, 0⟩, ⟨Q32, (.object Q101), 18, 4, 0⟩, ⟨"clues", (.object Q19), 18, 5, 0⟩] #[k29m0, k29m1, k29m2, k29m3, k29m4, k29m5, k29m6, k29m7] #[(.object Q10), (.object Q19), .int, (.array (.object Q10)), (.object Q101), (.object Q19)] #[.int, .int, .int] 315 none
def pool30 : Array CpInfo := pool [(2, .class_ 4), (1, u Q101), (31, .class_ 37), pu Q126, (25, u Q62), (5, u "put"), (23, .class_ 94), pu Q3] 168
def k30m0 : Method := ⟨"put", Q62, ⟨[(.object Q3), (.object Q3)], some (.object Q3)⟩, 1025, none⟩
def k30 : Class := kk Q101 (some 0) 1537 #[] (fileOf pool30 2 #[.nestMembers #[36]] #[⟨1025, 69, 63, #[]⟩] 1537 93 #[] #[]) #[] #[k30m0] #[] #[] 263 none
def pool31 : Array CpInfo := pool [(1, .methodref 2 3), pc 4, pn 5 6, pu Q3, pu Q57, pu Q63, (1, .class_ 10), (1, u Q104), (42, .class_ 54), pu Q101, (9, u "keySet"), pu "Ljava/util/Set;", pc 67, pu "java/util/AbstractMap$1", (5, u "values"), pu "Ljava/util/Collection;", pc 76, pu "java/util/AbstractMap$2", (104, .class_ 182), pu "java/util/AbstractMap$ViewCollection", pc 184, pu "java/util/AbstractMap$SimpleImmutableEntry", pc 186, pu "java/util/AbstractMap$SimpleEntry", pc 188, pu "java/util/AbstractMap$2$1", pc 190, pu "java/util/AbstractMap$1$1"] 5
def k31c0 : Code := ⟨1, 1, C82, #[], #[]⟩
def k31m0 : Method := ⟨Q57, Q63, ⟨[], none⟩, 4, some k31c0⟩
def k31 : Class := kk Q104 (some 0) 1057 #[30] (fileOf pool31 8 #[.nestMembers #[181, 183, 185, 75, 187, 66, 189]] #[⟨4, 5, 6, #[]⟩] 1057 2 #[53] #[⟨128, 64, 65, #[]⟩, ⟨128, 73, 74, #[]⟩]) #[⟨"keySet", (.object Q130), 128, 0, 0⟩, ⟨"values", (.object Q76), 128, 1, 0⟩] #[k31m0] #[(.object Q130), (.object Q76)] #[] 196 none
def pool32 : Array CpInfo := pool [(1, .methodref 2 3), pc 4, pn 5 6, pu Q3, pu Q108, pu Q80, (26, u Q121), (6, .class_ 41), pu Q15, (1, .methodref 44 45), pc 46, pn 47 48, pu Q104, pu Q57, pu Q63, (32, .fieldref 40 82), pn 83 84, pu "loadFactor", pu "F", (3, .fieldref 40 89), pn 90 91, pu "threshold", pu "I", (0, .float 1061158912), (8, .class_ 103), (1, u Q101), pu Q35, pf 40 106, pn 107 108, pu "table", pu Q25, (8, .methodref 40 118), pn 119 120, pu "resize", pu Q102, (2, u "entrySet"), (25, .methodref 40 150), pn 151 33, pu "hash", pm 40 153, pn 154 155, pu "putVal", pu Q71, pf 40 157, pn 104 91, (5, .class_ 165), (1, u Q6), (14, .class_ 181), pu "java/util/HashMap$TreeNode", (4, .methodref 40 187), pn 188 189, pu "newNode", pu Q64, (12, .fieldref 40 203), pn 204 91, pu Q43, pm 40 206, pn 207 208, pu Q127, (0, u "(Z)V"), (33, u "Ljava/util/Set;"), pc 244, pu "java/util/HashMap$KeySet", (18, .class_ 264), pu "java/util/HashMap$Values", (3, .class_ 269), pu "java/util/HashMap$EntrySet", (17, u Q62), (58, .class_ 348), (1, u "java/util/HashMap$UnsafeHolder"), (26, .methodref 163 376), pn 47 377, pu Q67, (14, .class_ 393), pu Q124, pc 395, pu Q88, pu Q87, pu "J", (3, u "DEFAULT_INITIAL_CAPACITY"), (1, u "MAXIMUM_CAPACITY"), pu "DEFAULT_LOAD_FACTOR", pu "TREEIFY_THRESHOLD", (1, u "UNTREEIFY_THRESHOLD"), (1, u "MIN_TREEIFY_CAPACITY"), (60, u "put"), (125, .class_ 597), pu "java/util/HashMap$EntrySpliterator", pc 599, pu "java/util/HashMap$ValueSpliterator", pc 601, pu "java/util/HashMap$KeySpliterator", pc 603, pu "java/util/HashMap$HashMapSpliterator", pc 605, pu "java/util/HashMap$EntryIterator", pc 607, pu "java/util/HashMap$ValueIterator", pc 609, pu "java/util/HashMap$KeyIterator", pc 611, pu "java/util/HashMap$HashIterator"] 17
def k32c0 : Code := ⟨3, 2, C27, #[], #[]⟩
def k32m0 : Method := ⟨"hash", Q121, ⟨[(.object Q3)], some .int⟩, 24, some k32c0⟩
def k32c1 : Code := ⟨2, 1, C64, #[], #[]⟩
def k32m1 : Method := ⟨Q57, Q63, ⟨[], none⟩, 1, some k32c1⟩
def k32c2 : Code := ⟨6, 3, C32, #[], #[]⟩
def k32m2 : Method := ⟨"put", Q62, ⟨[(.object Q3), (.object Q3)], some (.object Q3)⟩, 1, some k32c2⟩
def k32c3 : Code := ⟨7, 13, C3, #[], #[]⟩
def k32m3 : Method := ⟨"putVal", Q71, ⟨[.int, (.object Q3), (.object Q3), .boolean, .boolean], some (.object Q3)⟩, 16, some k32c3⟩
def k32c4 : Code := ⟨5, 14, C6, #[], #[]⟩
def k32m4 : Method := ⟨"resize", Q102, ⟨[], some (.array (.object Q6))⟩, 16, some k32c4⟩
def k32c5 : Code := ⟨6, 5, C36, #[], #[]⟩
def k32m5 : Method := ⟨"newNode", Q64, ⟨[.int, (.object Q3), (.object Q3), (.object Q6)], some (.object Q6)⟩, 0, some k32c5⟩
def k32c6 : Code := ⟨0, 2, jdk_69_method_52_code, #[], #[]⟩
def k32m6 : Method := ⟨Q127, "(Z)V", ⟨[.boolean], none⟩, 0, some k32c6⟩
def k32 : Class := kk Q15 (some 31) 33 #[30, 9, 10] (fileOf pool32 40 #[.nestMembers #[180, 596, 598, 600, 602, 604, 606, 608, 610, 346, 268, 263, 243, 163]] #[⟨24, 151, 33, #[]⟩, ⟨1, 47, 48, #[]⟩, ⟨1, 470, 287, #[]⟩, ⟨16, 154, 155, #[]⟩, ⟨16, 119, 120, #[]⟩, ⟨0, 188, 189, #[]⟩, ⟨0, 207, 208, #[]⟩] 33 44 #[101, 392, 394] #[⟨26, 396, 397, #[]⟩, ⟨24, 401, 91, #[]⟩, ⟨24, 403, 91, #[]⟩, ⟨24, 404, 84, #[]⟩, ⟨24, 405, 91, #[]⟩, ⟨24, 407, 91, #[]⟩, ⟨24, 409, 91, #[]⟩, ⟨128, 107, 108, #[]⟩, ⟨128, 123, 242, #[]⟩, ⟨128, 104, 91, #[]⟩, ⟨128, 204, 91, #[]⟩, ⟨0, 90, 91, #[]⟩, ⟨16, 83, 84, #[]⟩]) #[⟨Q87, .long, 26, 0, 0⟩, ⟨"DEFAULT_INITIAL_CAPACITY", .int, 24, 1, 0⟩, ⟨"MAXIMUM_CAPACITY", .int, 24, 2, 0⟩, ⟨"DEFAULT_LOAD_FACTOR", .float, 24, 3, 0⟩, ⟨"TREEIFY_THRESHOLD", .int, 24, 4, 0⟩, ⟨"UNTREEIFY_THRESHOLD", .int, 24, 5, 0⟩, ⟨"MIN_TREEIFY_CAPACITY", .int, 24, 6, 0⟩, ⟨"table", (.array (.object Q6)), 128, 2, 0⟩, ⟨"entrySet", (.object Q130), 128, 3, 0⟩, ⟨Q35, .int, 128, 4, 0⟩, ⟨Q43, .int, 128, 5, 0⟩, ⟨"threshold", .int, 0, 6, 0⟩, ⟨"loadFactor", .float, 16, 7, 0⟩] #[k32m0, k32m1, k32m2, k32m3, k32m4, k32m5, k32m6] #[(.object Q130), (.object Q76), (.array (.object Q6)), (.object Q130), .int, .int, .int, .float] #[.long, .int, .int, .float, .int, .int, .int] 629 none
def pool33 : Array CpInfo := pool [(2, .class_ 4), (1, u Q3), pu Q57, pu Q63, (17, .class_ 26), (1, u Q91), (6, u Q111), (21, .class_ 56), pu "jdk/internal/util/Preconditions$4", (57, .class_ 115), pu "jdk/internal/util/Preconditions$1", (7, u "SIOOBE_FORMATTER"), pu "Ljava/util/function/BiFunction;", pc 126, pu "jdk/internal/util/Preconditions$2", (3, u "AIOOBE_FORMATTER"), pc 132, pu "jdk/internal/util/Preconditions$3", (3, u "IOOBE_FORMATTER"), (41, u Q84)] 15
def k33m0 : Method := ⟨Q57, Q63, ⟨[], none⟩, 1, none⟩
def k33c1 : Code := ⟨3, 3, C55, #[], #[]⟩
def k33m1 : Method := ⟨Q111, Q84, ⟨[.int, .int, (.object Q77)], some .int⟩, 9, some k33c1⟩
def k33 : Class := kk Q91 (some 0) 33 #[] (fileOf pool33 24 #[.nestMembers #[55, 131, 125, 114]] #[⟨1, 5, 6, #[]⟩, ⟨9, 33, 178, #[]⟩] 33 2 #[] #[⟨25, 123, 124, #[]⟩, ⟨25, 130, 124, #[]⟩, ⟨25, 136, 124, #[]⟩]) #[⟨"SIOOBE_FORMATTER", (.object Q77), 25, 0, 0⟩, ⟨"AIOOBE_FORMATTER", (.object Q77), 25, 1, 0⟩, ⟨"IOOBE_FORMATTER", (.object Q77), 25, 2, 0⟩] #[k33m0, k33m1] #[] #[(.object Q77), (.object Q77), (.object Q77)] 194 (some 3)
def pool34 : Array CpInfo := pool [(16, .class_ 18), (1, u Q47), pu Q115, (0, u "()Z"), (2, u "next"), pu Q83, (6, .class_ 32), pu Q3] 20
def k34m0 : Method := ⟨Q115, "()Z", ⟨[], some .boolean⟩, 1025, none⟩
def k34m1 : Method := ⟨"next", Q83, ⟨[], some (.object Q3)⟩, 1025, none⟩
def k34 : Class := kk Q47 (some 0) 1537 #[] (fileOf pool34 16 #[] #[⟨1025, 19, 20, #[]⟩, ⟨1025, 23, 24, #[]⟩] 1537 31 #[] #[]) #[] #[k34m0, k34m1] #[] #[] 53 none
def pool35 : Array CpInfo := pool [(1, .fieldref 2 3), pc 4, pn 5 6, pu Q14, pu "this$0", pu Q48, pm 8 9, pc 10, pn 11 12, pu Q3, pu Q57, pu Q63, pf 2 14, pn 15 16, pu "lastRet", pu "I", pf 18 19, pc 20, pn 21 16, pu Q8, pu Q43, pf 2 23, pn 24 16, pu Q50, pf 2 26, pn 27 16, pu Q53, pf 18 29, pn 30 16, pu Q35, pm 2 32, pn 33 12, pu Q119, (3, .fieldref 18 38), pn 39 40, pu Q55, pu Q7, (28, .class_ 70), pu Q47, pu Q96, (8, u Q115), (0, u "()Z"), (1, u "next"), pu Q83] 19
def k35c0 : Code := ⟨2, 2, C34, #[], #[]⟩
def k35m0 : Method := ⟨Q57, Q96, ⟨[(.object Q8)], none⟩, 0, some k35c0⟩
def k35c1 : Code := ⟨2, 1, C39, #[], #[]⟩
def k35m1 : Method := ⟨Q115, "()Z", ⟨[], some .boolean⟩, 1, some k35c1⟩
def k35c2 : Code := ⟨4, 3, C7, #[], #[]⟩
def k35m2 : Method := ⟨"next", Q83, ⟨[], some (.object Q3)⟩, 1, some k35c2⟩
def k35c3 : Code := ⟨2, 1, C51, #[], #[]⟩
def k35m3 : Method := ⟨Q119, Q63, ⟨[], none⟩, 16, some k35c3⟩
def k35 : Class := kk Q14 (some 0) 32 #[34] (fileOf pool35 2 #[.nestHost 18] #[⟨0, 11, 71, #[]⟩, ⟨1, 80, 81, #[]⟩, ⟨1, 83, 84, #[]⟩, ⟨16, 33, 12, #[]⟩] 32 8 #[69] #[⟨0, 27, 16, #[]⟩, ⟨0, 15, 16, #[]⟩, ⟨0, 24, 16, #[]⟩, ⟨4112, 5, 6, #[]⟩]) #[⟨Q53, .int, 0, 0, 0⟩, ⟨"lastRet", .int, 0, 1, 0⟩, ⟨Q50, .int, 0, 2, 0⟩, ⟨"this$0", (.object Q8), 4112, 3, 0⟩] #[k35m0, k35m1, k35m2, k35m3] #[.int, .int, .int, (.object Q8)] #[] 104 none
def pool36 : Array CpInfo := pool [(1, .class_ 2), pu Q132, pc 4, pu Q3, pc 6, pu Q47] 20
def k36 : Class := kk Q132 (some 0) 1537 #[34] (fileOf pool36 1 #[] #[] 1537 3 #[5] #[]) #[] #[] #[] #[] 27 none
def pool37 : Array CpInfo := pool [(1, .methodref 2 3), pc 4, pn 5 6, pu Q3, pu Q57, pu Q63, pf 8 9, pc 10, pn 11 12, pu Q9, pu "list", pu Q21, pf 8 14, pn 15 16, pu Q35, pu "I", pf 8 18, pn 19 16, pu Q53, pf 8 21, pn 22 23, pu Q54, pu "Z", pi 25 26, pc 27, pn 28 29, pu Q19, pu "get", pu Q66, (6, .class_ 38), (1, u Q18), (2, .class_ 42), pu Q132, (4, u Q110), (11, u Q115), (0, u "()Z"), (1, u "next"), pu Q83] 22
def k37c0 : Code := ⟨2, 3, C31, #[], #[]⟩
def k37m0 : Method := ⟨Q57, Q110, ⟨[(.object Q19), .int], none⟩, 0, some k37c0⟩
def k37c1 : Code := ⟨2, 1, C40, #[], #[]⟩
def k37m1 : Method := ⟨Q115, "()Z", ⟨[], some .boolean⟩, 1, some k37c1⟩
def k37c2 : Code := ⟨3, 3, C24, #[{ startPc := 0, endPc := 24, handlerPc := 25, catchType := 30 }], #[]⟩
def k37m2 : Method := ⟨"next", Q83, ⟨[], some (.object Q3)⟩, 1, some k37c2⟩
def k37 : Class := kk Q9 (some 0) 48 #[36] (fileOf pool37 8 #[.nestHost 36] #[⟨0, 5, 47, #[]⟩, ⟨1, 59, 60, #[]⟩, ⟨1, 62, 63, #[]⟩] 48 2 #[41] #[⟨18, 11, 12, #[]⟩, ⟨18, 15, 16, #[]⟩, ⟨18, 22, 23, #[]⟩, ⟨2, 19, 16, #[]⟩]) #[⟨"list", (.object Q19), 18, 0, 0⟩, ⟨Q35, .int, 18, 1, 0⟩, ⟨Q54, .boolean, 18, 2, 0⟩, ⟨Q53, .int, 2, 3, 0⟩] #[k37m0, k37m1, k37m2] #[(.object Q19), .int, .boolean, .int] #[] 86 none
def pool38 : Array CpInfo := pool [(2, .class_ 4), (1, u Q3), pu Q57, pu Q63, (1, .class_ 10), (1, u "java/lang/Number"), (2, .class_ 14), pu Q88, pu Q87, pu "J"] 20
def k38m0 : Method := ⟨Q57, Q63, ⟨[], none⟩, 1, none⟩
def k38 : Class := kk "java/lang/Number" (some 0) 1057 #[10] (fileOf pool38 8 #[] #[⟨1, 5, 6, #[]⟩] 1057 2 #[13] #[⟨26, 15, 16, #[]⟩]) #[⟨Q87, .long, 26, 0, 0⟩] #[k38m0] #[] #[.long] 37 none
def pool39 : Array CpInfo := pool [(1, .class_ 2), pu Q24, (16, u "digits"), pu "[C", (64, u "DigitOnes"), pu "[B", (2, u "DigitTens"), (97, u Q122), pu Q100, pc 190, pu Q0, pf 189 192, pn 193 194, pu "high", pu "I", pf 189 196, pn 197 198, pu Q12, pu Q2, (4, .class_ 204), pu "java/lang/Number", (2, u Q49), (94, u "TYPE"), pu "Ljava/lang/Class;", pc 305, pu Q123, pc 307, pu Q99, pc 309, pu Q94, pu "MIN_VALUE", (1, u "MAX_VALUE"), (3, u "SIZE"), (1, u "BYTES"), (1, u Q87), pu "J"] 131
def k39c0 : Code := ⟨3, 1, C23, #[], #[]⟩
def k39m0 : Method := ⟨Q122, Q100, ⟨[.int], some (.object Q24)⟩, 9, some k39c0⟩
def k39 : Class := kk Q24 (some 38) 49 #[12, 14, 15] (fileOf pool39 1 #[.nestMembers #[189]] #[⟨9, 187, 188, #[]⟩] 49 203 #[304, 306, 308] #[⟨25, 310, 194, #[]⟩, ⟨25, 312, 194, #[]⟩, ⟨25, 302, 303, #[]⟩, ⟨24, 19, 20, #[]⟩, ⟨24, 89, 86, #[]⟩, ⟨24, 85, 86, #[]⟩, ⟨18, 207, 194, #[]⟩, ⟨25, 316, 194, #[]⟩, ⟨25, 318, 194, #[]⟩, ⟨26, 320, 321, #[]⟩]) #[⟨"MIN_VALUE", .int, 25, 0, 0⟩, ⟨"MAX_VALUE", .int, 25, 1, 0⟩, ⟨"TYPE", (.object Q113), 25, 2, 0⟩, ⟨"digits", (.array .char), 24, 3, 0⟩, ⟨"DigitTens", (.array .byte), 24, 4, 0⟩, ⟨"DigitOnes", (.array .byte), 24, 5, 0⟩, ⟨Q49, .int, 18, 0, 0⟩, ⟨"SIZE", .int, 25, 6, 0⟩, ⟨"BYTES", .int, 25, 7, 0⟩, ⟨Q87, .long, 26, 8, 0⟩] #[k39m0] #[.int] #[.int, .int, (.object Q113), (.array .char), (.array .byte), (.array .byte), .int, .int, .long] 453 none
def pool40 : Array CpInfo := pool [(2, .class_ 4), (1, u Q3), pu Q57, pu Q63, pc 8, pu Q24, (7, .class_ 18), (1, u Q0), pu Q81, pu "Z", (26, u "high"), pu "I", (8, u "archivedCache"), pu Q2, (12, u Q12), pu "low"] 27
def k40m0 : Method := ⟨Q57, Q63, ⟨[], none⟩, 2, none⟩
def k40 : Class := kk Q0 (some 0) 48 #[] (fileOf pool40 16 #[.nestHost 7] #[⟨2, 5, 6, #[]⟩] 48 2 #[] #[⟨24, 72, 48, #[]⟩, ⟨24, 47, 48, #[]⟩, ⟨24, 71, 58, #[]⟩, ⟨8, 57, 58, #[]⟩, ⟨4120, 19, 20, #[]⟩]) #[⟨"low", .int, 24, 0, 0⟩, ⟨"high", .int, 24, 1, 0⟩, ⟨Q12, (.array (.object Q24)), 24, 2, 0⟩, ⟨"archivedCache", (.array (.object Q24)), 8, 3, 0⟩, ⟨Q81, .boolean, 4120, 4, 0⟩] #[k40m0] #[] #[.int, .int, (.array (.object Q24)), (.array (.object Q24)), .boolean] 100 (some 4)
def pool41 : Array CpInfo := pool [(23, .class_ 25), (1, u Q126), (6, .class_ 34), (1, u Q101), (34, .class_ 70), pu Q3] 107
def k41 : Class := kk Q126 (some 0) 1537 #[] (fileOf pool41 23 #[.nestHost 32] #[] 1537 69 #[] #[]) #[] #[] #[] #[] 178 none
def pool42 : Array CpInfo := pool [(1, .methodref 2 3), pc 4, pn 5 6, pu Q3, pu Q57, pu Q63, pf 8 9, pc 10, pn 11 12, pu Q6, pu "hash", pu "I", pf 8 14, pn 15 16, pu "key", pu Q20, pf 8 18, pn 19 16, pu Q49, pf 8 21, pn 22 23, pu "next", pu Q44, (22, .class_ 47), pu Q126, (15, u Q67), (24, .class_ 89), pu Q15] 5
def k42c0 : Code := ⟨2, 5, C18, #[], #[]⟩
def k42m0 : Method := ⟨Q57, Q67, ⟨[.int, (.object Q3), (.object Q3), (.object Q6)], none⟩, 0, some k42c0⟩
def k42 : Class := kk Q6 (some 0) 32 #[41] (fileOf pool42 8 #[.nestHost 88] #[⟨0, 5, 63, #[]⟩] 32 2 #[46] #[⟨16, 11, 12, #[]⟩, ⟨16, 15, 16, #[]⟩, ⟨0, 19, 16, #[]⟩, ⟨0, 22, 23, #[]⟩]) #[⟨"hash", .int, 16, 0, 0⟩, ⟨"key", (.object Q3), 16, 1, 0⟩, ⟨Q49, (.object Q3), 0, 2, 0⟩, ⟨"next", (.object Q6), 0, 3, 0⟩] #[k42m0] #[.int, (.object Q3), (.object Q3), (.object Q6)] #[] 95 none
def pool43 : Array CpInfo := pool [(3, .methodref 4 5), pc 6, pn 7 8, pu Q3, pu Q57, pu Q63, pc 10, pu Q8, pm 9 5, pf 13 14, pc 15, pn 16 17, pu Q1, pu "steps", pu Q21, pf 13 19, pn 20 21, pu "puzzle", pu Q28, pm 23 24, pc 25, pn 26 27, pu Q4, pu Q35, pu Q80, pf 13 29, pn 26 30, pu "I", pm 23 32, pn 33 27, pu Q129, pf 13 35, pn 36 30, pu Q46, pm 23 38, pn 39 27, pu Q133, pf 13 41, pn 42 30, pu Q32, pf 13 44, pn 45 46, pu "values", pu "[B", pf 13 48, pn 49 50, pu "stepOf", pu "[I", pm 23 52, pn 53 27, pu "lineCount", pf 13 55, pn 56 50, pu "partner", pm 58 59, pc 60, pn 61 62, pu Q42, pu "fill", (0, u "([II)V"), pf 13 64, pn 65 66, pu "open", pu "[J", pm 58 68, pn 61 69, (0, u "([JJ)V"), pf 13 71, pn 72 30, pu "cellCount", (0, .integer 2147483647), pf 13 75, pn 76 30, pu "room", pf 13 78, pn 79 30, pu "limit", (10, .class_ 92), (1, u Q19), (5, .interfaceMethodref 90 24), (6, .methodref 13 106), pn 107 108, pu "cell", pu Q92, pm 23 110, pn 111 112, pu "category", (0, u "(I)I"), pm 23 114, pn 115 112, pu "position", (5, u "filledFrom"), (0, u "(IIZ)I"), pm 23 124, pn 125 108, pu "line", (6, .methodref 13 133), pn 61 134, pu Q59, (14, .nameAndType 151 27), (1, u "number"), (19, .class_ 172), pu "com/example/cluewright/cluewright/Grid$LimitReached", (1, .class_ 175), pu Q5, pm 177 178, pc 179, pn 180 108, pu Q93, pu "min", pm 177 182, pn 183 108, pu "max", pm 13 185, pn 186 187, pu "stepsOf", (0, u "([I)[I"), pm 174 189, pn 7 190, pu Q58, pi 90 192, pn 193 194, pu "add", pu Q86, pm 174 149, pm 13 197, pn 198 199, pu "count", (0, u "(IIZ)V"), pm 13 201, pn 202 203, pu "checkJoined", (0, u "(II)V"), pm 13 205, pn 206 203, pu "checkParted", (12, .methodref 58 220), pn 221 222, pu "sort", (0, u "([I)V"), (34, .methodref 13 258), pn 259 199, pu "tally", (34, .long 18446744073709551615), (23, u "NEVER"), (1, u "EMPTY"), pu "B", (1, u "YES"), (1, u "NO"), (3, u Q74), (16, u Q60)] 48
def k43c0 : Code := ⟨5, 2, C1, #[], #[]⟩
def k43m0 : Method := ⟨Q57, Q74, ⟨[(.object Q4)], none⟩, 0, some k43c0⟩
def k43c1 : Code := ⟨2, 3, C19, #[], #[]⟩
def k43m1 : Method := ⟨"cell", Q92, ⟨[.int, .int], some .int⟩, 0, some k43c1⟩
def k43c2 : Code := ⟨3, 5, C11, #[], #[]⟩
def k43m2 : Method := ⟨"filledFrom", "(IIZ)I", ⟨[.int, .int, .boolean], some .int⟩, 0, some k43c2⟩
def k43c3 : Code := ⟨8, 7, C37, #[], #[]⟩
def k43m3 : Method := ⟨"fill", Q60, ⟨[.int, .int, .boolean, (.object Q36), (.object Q38), (.array .int)], none⟩, 128, some k43c3⟩
def k43c4 : Code := ⟨10, 12, C0, #[], #[]⟩
def k43m4 : Method := ⟨"fill", Q59, ⟨[.int, .int, .boolean, (.object Q36), (.object Q38), (.object Q37), (.array .int)], none⟩, 130, some k43c4⟩
def k43c5 : Code := ⟨5, 4, C29, #[], #[]⟩
def k43m5 : Method := ⟨"stepsOf", "([I)[I", ⟨[(.array .int)], some (.array .int)⟩, 2, some k43c5⟩
def k43c6 : Code := ⟨9, 6, C4, #[], #[]⟩
def k43m6 : Method := ⟨"count", "(IIZ)V", ⟨[.int, .int, .boolean], none⟩, 2, some k43c6⟩
def k43c7 : Code := ⟨8, 5, C5, #[], #[]⟩
def k43m7 : Method := ⟨"tally", "(IIZ)V", ⟨[.int, .int, .boolean], none⟩, 2, some k43c7⟩
def k43c8 : Code := ⟨6, 4, C14, #[], #[]⟩
def k43m8 : Method := ⟨"checkJoined", "(II)V", ⟨[.int, .int], none⟩, 2, some k43c8⟩
def k43c9 : Code := ⟨5, 6, C13, #[], #[]⟩
def k43m9 : Method := ⟨"checkParted", "(II)V", ⟨[.int, .int], none⟩, 2, some k43c9⟩
def k43 : Class := kk Q1 (some 0) 48 #[] (fileOf pool43 13 #[.nestMembers #[171]] #[⟨0, 7, 329, #[]⟩, ⟨0, 107, 108, #[]⟩, ⟨0, 121, 122, #[]⟩, ⟨128, 61, 346, #[]⟩, ⟨130, 61, 134, #[]⟩, ⟨2, 186, 187, #[]⟩, ⟨2, 198, 199, #[]⟩, ⟨2, 259, 199, #[]⟩, ⟨2, 202, 203, #[]⟩, ⟨2, 206, 203, #[]⟩] 48 4 #[] #[⟨24, 318, 30, #[]⟩, ⟨26, 320, 321, #[]⟩, ⟨26, 323, 321, #[]⟩, ⟨26, 325, 321, #[]⟩, ⟨18, 20, 21, #[]⟩, ⟨18, 26, 30, #[]⟩, ⟨18, 36, 30, #[]⟩, ⟨18, 42, 30, #[]⟩, ⟨18, 45, 46, #[]⟩, ⟨18, 49, 50, #[]⟩, ⟨18, 56, 50, #[]⟩, ⟨18, 65, 66, #[]⟩, ⟨18, 72, 30, #[]⟩, ⟨18, 16, 17, #[]⟩, ⟨18, 76, 30, #[]⟩, ⟨2, 79, 30, #[]⟩]) #[⟨"NEVER", .int, 24, 0, 0⟩, ⟨"EMPTY", .byte, 26, 1, 0⟩, ⟨"YES", .byte, 26, 2, 0⟩, ⟨"NO", .byte, 26, 3, 0⟩, ⟨"puzzle", (.object Q4), 18, 0, 0⟩, ⟨Q35, .int, 18, 1, 0⟩, ⟨Q46, .int, 18, 2, 0⟩, ⟨Q32, .int, 18, 3, 0⟩, ⟨"values", (.array .byte), 18, 4, 0⟩, ⟨"stepOf", (.array .int), 18, 5, 0⟩, ⟨"partner", (.array .int), 18, 6, 0⟩, ⟨"open", (.array .long), 18, 7, 0⟩, ⟨"cellCount", .int, 18, 8, 0⟩, ⟨"steps", (.object Q19), 18, 9, 0⟩, ⟨"room", .int, 18, 10, 0⟩, ⟨"limit", .int, 2, 11, 0⟩] #[k43m0, k43m1, k43m2, k43m3, k43m4, k43m5, k43m6, k43m7, k43m8, k43m9] #[(.object Q4), .int, .int, .int, (.array .byte), (.array .int), (.array .int), (.array .long), .int, (.object Q19), .int, .int] #[.int, .byte, .byte, .byte] 395 none
def pool44 : Array CpInfo := pool [(1, .methodref 2 3), pc 4, pn 5 6, pu Q112, pu Q57, pu Q63, pf 8 9, pc 10, pn 11 12, pu Q5, pu "number", pu "I", pf 8 14, pn 15 12, pu "a", pf 8 17, pn 18 12, pu "b", pf 8 20, pn 21 22, pu "yes", pu "Z", pf 8 24, pn 25 26, pu "reason", pu Q29, pf 8 28, pn 29 30, pu "clue", pu Q31, pf 8 32, pn 33 34, pu "premises", pu "[I", pf 8 36, pn 37 38, pu "chain", pu Q30, (19, .class_ 60), (1, u "com/example/cluewright/cluewright/Step$1"), (6, u Q80), (34, u Q58)] 50
def k44c0 : Code := ⟨2, 9, C9, #[], #[]⟩
def k44m0 : Method := ⟨Q57, Q58, ⟨[.int, .int, .int, .boolean, (.object Q36), (.object Q38), (.array .int), (.object Q37)], none⟩, 0, some k44c0⟩
def k44c1 : Code := ⟨1, 1, C75, #[], #[]⟩
def k44m1 : Method := ⟨"number", Q80, ⟨[], some .int⟩, 1, some k44c1⟩
def k44 : Class := kk Q5 (some 19) 48 #[] (fileOf pool44 8 #[.nestMembers #[58]] #[⟨0, 5, 102, #[]⟩, ⟨1, 11, 67, #[]⟩] 48 2 #[] #[⟨18, 11, 12, #[]⟩, ⟨18, 15, 12, #[]⟩, ⟨18, 18, 12, #[]⟩, ⟨18, 21, 22, #[]⟩, ⟨18, 25, 26, #[]⟩, ⟨18, 29, 30, #[]⟩, ⟨18, 33, 34, #[]⟩, ⟨18, 37, 38, #[]⟩]) #[⟨"number", .int, 18, 0, 0⟩, ⟨"a", .int, 18, 1, 0⟩, ⟨"b", .int, 18, 2, 0⟩, ⟨"yes", .boolean, 18, 3, 0⟩, ⟨"reason", (.object Q36), 18, 4, 0⟩, ⟨"clue", (.object Q38), 18, 5, 0⟩, ⟨"premises", (.array .int), 18, 6, 0⟩, ⟨"chain", (.object Q37), 18, 7, 0⟩] #[k44m0, k44m1] #[.int, .int, .int, .boolean, (.object Q36), (.object Q38), (.array .int), (.object Q37)] #[] 153 none
def pool45 : Array CpInfo := pool [(1, .class_ 2), pu Q51, (5, .class_ 10), (1, u Q3), pu Q57, pu Q63, (4, .class_ 18), pu "java/util/DualPivotQuicksort$Sorter", (7, .methodref 1 27), pn 28 29, pu "sort", pu Q85, (3, u "([IIII)V"), pm 1 35, pn 36 37, pu "insertionSort", (0, u "([III)V"), (30, u "I"), (4, .class_ 74), pu "java/util/DualPivotQuicksort$RunMerger", (10, .class_ 86), pu "java/util/DualPivotQuicksort$Merger", (127, u "MAX_MIXED_INSERTION_SORT_SIZE"), (2, u "MAX_INSERTION_SORT_SIZE"), (1, u "MIN_PARALLEL_SORT_SIZE"), (1, u "MIN_TRY_MERGE_SIZE"), pu "MIN_FIRST_RUN_SIZE", (1, u "MIN_FIRST_RUNS_FACTOR"), (1, u "MAX_RUN_CAPACITY"), (1, u "MIN_RUN_COUNT"), (1, u "MIN_PARALLEL_MERGE_PARTS_SIZE"), pu "MIN_BYTE_COUNTING_SORT_SIZE", (1, u "MIN_SHORT_OR_CHAR_COUNTING_SORT_SIZE"), (1, u "DELTA"), (1, u "MAX_RECURSION_DEPTH"), (1, u "NUM_BYTE_VALUES"), (1, u "MAX_BYTE_INDEX"), pu "NUM_CHAR_VALUES", pu "NUM_SHORT_VALUES", pu "MAX_SHORT_INDEX"] 86
def k45m0 : Method := ⟨Q57, Q63, ⟨[], none⟩, 2, none⟩
def k45c1 : Code := ⟨9, 7, C30, #[], #[]⟩
def k45m1 : Method := ⟨"sort", "([IIII)V", ⟨[(.array .int), .int, .int, .int], none⟩, 8, some k45c1⟩
def k45c2 : Code := ⟨6, 21, C10, #[], #[]⟩
def k45m2 : Method := ⟨"sort", Q85, ⟨[(.object "java/util/DualPivotQuicksort$Sorter"), (.array .int), .int, .int, .int], none⟩, 8, some k45c2⟩
def k45c3 : Code := ⟨4, 6, C53, #[], #[]⟩
def k45m3 : Method := ⟨"insertionSort", "([III)V", ⟨[(.array .int), .int, .int], none⟩, 10, some k45c3⟩
def k45 : Class := kk Q51 (some 0) 48 #[] (fileOf pool45 1 #[.nestMembers #[73, 85, 17]] #[⟨2, 11, 12, #[]⟩, ⟨8, 28, 33, #[]⟩, ⟨8, 28, 29, #[]⟩, ⟨10, 36, 37, #[]⟩] 48 8 #[] #[⟨26, 214, 68, #[]⟩, ⟨26, 217, 68, #[]⟩, ⟨26, 219, 68, #[]⟩, ⟨26, 221, 68, #[]⟩, ⟨26, 222, 68, #[]⟩, ⟨26, 224, 68, #[]⟩, ⟨26, 226, 68, #[]⟩, ⟨26, 228, 68, #[]⟩, ⟨26, 230, 68, #[]⟩, ⟨26, 231, 68, #[]⟩, ⟨26, 233, 68, #[]⟩, ⟨26, 235, 68, #[]⟩, ⟨26, 237, 68, #[]⟩, ⟨26, 239, 68, #[]⟩, ⟨26, 241, 68, #[]⟩, ⟨26, 242, 68, #[]⟩, ⟨26, 243, 68, #[]⟩, ⟨26, 244, 68, #[]⟩]) #[⟨"MAX_MIXED_INSERTION_SORT_SIZE", .int, 26, 0, 0⟩, ⟨"MAX_INSERTION_SORT_SIZE", .int, 26, 1, 0⟩, ⟨"MIN_PARALLEL_SORT_SIZE", .int, 26, 2, 0⟩, ⟨"MIN_TRY_MERGE_SIZE", .int, 26, 3, 0⟩, ⟨"MIN_FIRST_RUN_SIZE", .int, 26, 4, 0⟩, ⟨"MIN_FIRST_RUNS_FACTOR", .int, 26, 5, 0⟩, ⟨"MAX_RUN_CAPACITY", .int, 26, 6, 0⟩, ⟨"MIN_RUN_COUNT", .int, 26, 7, 0⟩, ⟨"MIN_PARALLEL_MERGE_PARTS_SIZE", .int, 26, 8, 0⟩, ⟨"MIN_BYTE_COUNTING_SORT_SIZE", .int, 26, 9, 0⟩, ⟨"MIN_SHORT_OR_CHAR_COUNTING_SORT_SIZE", .int, 26, 10, 0⟩, ⟨"DELTA", .int, 26, 11, 0⟩, ⟨"MAX_RECURSION_DEPTH", .int, 26, 12, 0⟩, ⟨"NUM_BYTE_VALUES", .int, 26, 13, 0⟩, ⟨"MAX_BYTE_INDEX", .int, 26, 14, 0⟩, ⟨"NUM_CHAR_VALUES", .int, 26, 15, 0⟩, ⟨"NUM_SHORT_VALUES", .int, 26, 16, 0⟩, ⟨"MAX_SHORT_INDEX", .int, 26, 17, 0⟩] #[k45m0, k45m1, k45m2, k45m3] #[] #[.int, .int, .int, .int, .int, .int, .int, .int, .int, .int, .int, .int, .int, .int, .int, .int, .int, .int] 331 none
def pool46 : Array CpInfo := pool [(9, u Q57), (6, .class_ 18), (1, u Q3), pu Q63, (1, .class_ 23), (1, u "jdk/internal/util/ArraysSupport"), pu "LOG2_ARRAY_LONG_INDEX_SCALE", pu "I", (2, u "U"), pu "Ljdk/internal/misc/Unsafe;", (8, u "BIG_ENDIAN"), pu "Z", (8, u "LOG2_BYTE_BIT_SIZE"), (4, u "LOG2_ARRAY_INT_INDEX_SCALE"), (54, u "JLA"), pu "Ljdk/internal/access/JavaLangAccess;", (11, u "LOG2_ARRAY_BOOLEAN_INDEX_SCALE"), (9, u "LOG2_ARRAY_BYTE_INDEX_SCALE"), (5, u "LOG2_ARRAY_CHAR_INDEX_SCALE"), (5, u "LOG2_ARRAY_SHORT_INDEX_SCALE"), (18, u "LOG2_ARRAY_FLOAT_INDEX_SCALE"), (24, u "LOG2_ARRAY_DOUBLE_INDEX_SCALE"), (89, u "T_BOOLEAN"), (2, u "T_CHAR"), (1, u "T_FLOAT"), (1, u "T_DOUBLE"), (1, u "T_BYTE"), (1, u "T_SHORT"), (1, u "T_INT"), (1, u "T_LONG"), (1, u "SOFT_MAX_ARRAY_LENGTH")] 83
def k46m0 : Method := ⟨Q57, Q63, ⟨[], none⟩, 2, none⟩
def k46 : Class := kk "jdk/internal/util/ArraysSupport" (some 0) 33 #[] (fileOf pool46 21 #[] #[⟨2, 9, 19, #[]⟩] 33 16 #[] #[⟨24, 28, 29, #[]⟩, ⟨26, 38, 39, #[]⟩, ⟨25, 121, 25, #[]⟩, ⟨25, 131, 25, #[]⟩, ⟨25, 137, 25, #[]⟩, ⟨25, 143, 25, #[]⟩, ⟨25, 53, 25, #[]⟩, ⟨25, 24, 25, #[]⟩, ⟨25, 162, 25, #[]⟩, ⟨25, 187, 25, #[]⟩, ⟨26, 48, 25, #[]⟩, ⟨25, 277, 25, #[]⟩, ⟨25, 280, 25, #[]⟩, ⟨25, 282, 25, #[]⟩, ⟨25, 284, 25, #[]⟩, ⟨25, 286, 25, #[]⟩, ⟨25, 288, 25, #[]⟩, ⟨25, 290, 25, #[]⟩, ⟨25, 292, 25, #[]⟩, ⟨26, 108, 109, #[]⟩, ⟨25, 294, 25, #[]⟩]) #[⟨"U", (.object "jdk/internal/misc/Unsafe"), 24, 0, 0⟩, ⟨"BIG_ENDIAN", .boolean, 26, 1, 0⟩, ⟨"LOG2_ARRAY_BOOLEAN_INDEX_SCALE", .int, 25, 2, 0⟩, ⟨"LOG2_ARRAY_BYTE_INDEX_SCALE", .int, 25, 3, 0⟩, ⟨"LOG2_ARRAY_CHAR_INDEX_SCALE", .int, 25, 4, 0⟩, ⟨"LOG2_ARRAY_SHORT_INDEX_SCALE", .int, 25, 5, 0⟩, ⟨"LOG2_ARRAY_INT_INDEX_SCALE", .int, 25, 6, 0⟩, ⟨"LOG2_ARRAY_LONG_INDEX_SCALE", .int, 25, 7, 0⟩, ⟨"LOG2_ARRAY_FLOAT_INDEX_SCALE", .int, 25, 8, 0⟩, ⟨"LOG2_ARRAY_DOUBLE_INDEX_SCALE", .int, 25, 9, 0⟩, ⟨"LOG2_BYTE_BIT_SIZE", .int, 26, 10, 0⟩, ⟨"T_BOOLEAN", .int, 25, 11, 0⟩, ⟨"T_CHAR", .int, 25, 12, 0⟩, ⟨"T_FLOAT", .int, 25, 13, 0⟩, ⟨"T_DOUBLE", .int, 25, 14, 0⟩, ⟨"T_BYTE", .int, 25, 15, 0⟩, ⟨"T_SHORT", .int, 25, 16, 0⟩, ⟨"T_INT", .int, 25, 17, 0⟩, ⟨"T_LONG", .int, 25, 18, 0⟩, ⟨"JLA", (.object "jdk/internal/access/JavaLangAccess"), 26, 19, 0⟩, ⟨"SOFT_MAX_ARRAY_LENGTH", .int, 25, 20, 0⟩] #[k46m0] #[] #[(.object "jdk/internal/misc/Unsafe"), .boolean, .int, .int, .int, .int, .int, .int, .int, .int, .int, .int, .int, .int, .int, .int, .int, .int, .int, (.object "jdk/internal/access/JavaLangAccess"), .int] 378 none
def pool47 : Array CpInfo := pool [(1, u Q113), pc 1, pu Q3, pc 3] 0
def k47 : Class := kk Q113 (some 0) 49 #[] (fileOf pool47 2 #[] #[] 49 4 #[] #[]) #[] #[] #[] #[] 5 none
def k48 : Class := { plain "byte" none with kind := .primitive 'B', accessFlags := 0x411 }
def k49 : Class := { plain "[B" (some 0) with kind := .array 48 .byte, interfaces := #[9, 10], accessFlags := 1041 }
def k50 : Class := { plain "int" none with kind := .primitive 'I', accessFlags := 0x411 }
def k51 : Class := { plain "[I" (some 0) with kind := .array 50 .int, interfaces := #[9, 10], accessFlags := 1041 }
def k52 : Class := { plain "long" none with kind := .primitive 'J', accessFlags := 0x411 }
def k53 : Class := { plain "[J" (some 0) with kind := .array 52 .long, interfaces := #[9, 10], accessFlags := 1041 }
def k54 : Class := { plain Q2 (some 0) with kind := .array 39 (.object Q24), interfaces := #[9, 10], accessFlags := 1041 }
def k55 : Class := { plain Q7 (some 0) with kind := .array 0 (.object Q3), interfaces := #[9, 10], accessFlags := 1041, mirror := some 5 }
def k56 : Class := { plain Q41 (some 0) with kind := .array 16 (.object Q10), interfaces := #[9, 10], accessFlags := 1041 }
def k57 : Class := { plain Q25 (some 0) with kind := .array 42 (.object Q6), interfaces := #[9, 10], accessFlags := 1041 }
def ci (v : Int32) : Cell := { cls := 39, slots := #[.int v], vm := .none }
def heap : Heap := #[{ cls := 11, slots := #[.long 0, .int 0, .ref 263, .ref 264], vm := .statics 11 },
  { cls := 16, slots := #[.long 0, .int 1, .null, .int 0, .null, .int 0, .int 0], vm := .statics 16 },
  { cls := 21, slots := #[.long 0, .int 0, .null, .ref 265, .ref 266, .null, .null, .null, .int 0, .int 1], vm := .statics 21 },
  { cls := 33, slots := #[.null, .null, .null], vm := .statics 33 },
  { cls := 40, slots := #[.int 0, .int 127, .ref 262, .null, .int 0], vm := .statics 40 },
  { cls := 47, slots := #[], vm := .mirror 55 }, ci (-128), ci (-127), ci (-126), ci (-125), ci (-124), ci (-123), ci (-122), ci (-121), ci (-120), ci (-119), ci (-118), ci (-117), ci (-116), ci (-115), ci (-114), ci (-113), ci (-112), ci (-111), ci (-110), ci (-109), ci (-108), ci (-107), ci (-106), ci (-105), ci (-104), ci (-103), ci (-102), ci (-101), ci (-100), ci (-99), ci (-98), ci (-97), ci (-96), ci (-95), ci (-94), ci (-93), ci (-92), ci (-91), ci (-90), ci (-89), ci (-88), ci (-87), ci (-86), ci (-85), ci (-84), ci (-83), ci (-82), ci (-81), ci (-80), ci (-79), ci (-78), ci (-77), ci (-76), ci (-75), ci (-74), ci (-73), ci (-72), ci (-71), ci (-70), ci (-69), ci (-68), ci (-67), ci (-66), ci (-65), ci (-64), ci (-63), ci (-62), ci (-61), ci (-60), ci (-59), ci (-58), ci (-57), ci (-56), ci (-55), ci (-54), ci (-53), ci (-52), ci (-51), ci (-50), ci (-49), ci (-48), ci (-47), ci (-46), ci (-45), ci (-44), ci (-43), ci (-42), ci (-41), ci (-40), ci (-39), ci (-38), ci (-37), ci (-36), ci (-35), ci (-34), ci (-33), ci (-32), ci (-31), ci (-30), ci (-29), ci (-28), ci (-27), ci (-26), ci (-25), ci (-24), ci (-23), ci (-22), ci (-21), ci (-20), ci (-19), ci (-18), ci (-17), ci (-16), ci (-15), ci (-14), ci (-13), ci (-12), ci (-11), ci (-10), ci (-9), ci (-8), ci (-7), ci (-6), ci (-5), ci (-4), ci (-3), ci (-2), ci (-1), ci 0, ci 1, ci 2, ci 3, ci 4, ci 5, ci 6, ci 7, ci 8, ci 9, ci 10, ci 11, ci 12, ci 13, ci 14, ci 15, ci 16, ci 17, ci 18, ci 19, ci 20, ci 21, ci 22, ci 23, ci 24, ci 25, ci 26, ci 27, ci 28, ci 29, ci 30, ci 31, ci 32, ci 33, ci 34, ci 35, ci 36, ci 37, ci 38, ci 39, ci 40, ci 41, ci 42, ci 43, ci 44, ci 45, ci 46, ci 47, ci 48, ci 49, ci 50, ci 51, ci 52, ci 53, ci 54, ci 55, ci 56, ci 57, ci 58, ci 59, ci 60, ci 61, ci 62, ci 63, ci 64, ci 65, ci 66, ci 67, ci 68, ci 69, ci 70, ci 71, ci 72, ci 73, ci 74, ci 75, ci 76, ci 77, ci 78, ci 79, ci 80, ci 81, ci 82, ci 83, ci 84, ci 85, ci 86, ci 87, ci 88, ci 89, ci 90, ci 91, ci 92, ci 93, ci 94, ci 95, ci 96, ci 97, ci 98, ci 99, ci 100, ci 101, ci 102, ci 103, ci 104, ci 105, ci 106, ci 107, ci 108, ci 109, ci 110, ci 111, ci 112, ci 113, ci 114, ci 115, ci 116, ci 117, ci 118, ci 119, ci 120, ci 121, ci 122, ci 123, ci 124, ci 125, ci 126, ci 127,
  { cls := 54, slots := #[.ref 6, .ref 7, .ref 8, .ref 9, .ref 10, .ref 11, .ref 12, .ref 13, .ref 14, .ref 15, .ref 16, .ref 17, .ref 18, .ref 19, .ref 20, .ref 21, .ref 22, .ref 23, .ref 24, .ref 25, .ref 26, .ref 27, .ref 28, .ref 29, .ref 30, .ref 31, .ref 32, .ref 33, .ref 34, .ref 35, .ref 36, .ref 37, .ref 38, .ref 39, .ref 40, .ref 41, .ref 42, .ref 43, .ref 44, .ref 45, .ref 46, .ref 47, .ref 48, .ref 49, .ref 50, .ref 51, .ref 52, .ref 53, .ref 54, .ref 55, .ref 56, .ref 57, .ref 58, .ref 59, .ref 60, .ref 61, .ref 62, .ref 63, .ref 64, .ref 65, .ref 66, .ref 67, .ref 68, .ref 69, .ref 70, .ref 71, .ref 72, .ref 73, .ref 74, .ref 75, .ref 76, .ref 77, .ref 78, .ref 79, .ref 80, .ref 81, .ref 82, .ref 83, .ref 84, .ref 85, .ref 86, .ref 87, .ref 88, .ref 89, .ref 90, .ref 91, .ref 92, .ref 93, .ref 94, .ref 95, .ref 96, .ref 97, .ref 98, .ref 99, .ref 100, .ref 101, .ref 102, .ref 103, .ref 104, .ref 105, .ref 106, .ref 107, .ref 108, .ref 109, .ref 110, .ref 111, .ref 112, .ref 113, .ref 114, .ref 115, .ref 116, .ref 117, .ref 118, .ref 119, .ref 120, .ref 121, .ref 122, .ref 123, .ref 124, .ref 125, .ref 126, .ref 127, .ref 128, .ref 129, .ref 130, .ref 131, .ref 132, .ref 133, .ref 134, .ref 135, .ref 136, .ref 137, .ref 138, .ref 139, .ref 140, .ref 141, .ref 142, .ref 143, .ref 144, .ref 145, .ref 146, .ref 147, .ref 148, .ref 149, .ref 150, .ref 151, .ref 152, .ref 153, .ref 154, .ref 155, .ref 156, .ref 157, .ref 158, .ref 159, .ref 160, .ref 161, .ref 162, .ref 163, .ref 164, .ref 165, .ref 166, .ref 167, .ref 168, .ref 169, .ref 170, .ref 171, .ref 172, .ref 173, .ref 174, .ref 175, .ref 176, .ref 177, .ref 178, .ref 179, .ref 180, .ref 181, .ref 182, .ref 183, .ref 184, .ref 185, .ref 186, .ref 187, .ref 188, .ref 189, .ref 190, .ref 191, .ref 192, .ref 193, .ref 194, .ref 195, .ref 196, .ref 197, .ref 198, .ref 199, .ref 200, .ref 201, .ref 202, .ref 203, .ref 204, .ref 205, .ref 206, .ref 207, .ref 208, .ref 209, .ref 210, .ref 211, .ref 212, .ref 213, .ref 214, .ref 215, .ref 216, .ref 217, .ref 218, .ref 219, .ref 220, .ref 221, .ref 222, .ref 223, .ref 224, .ref 225, .ref 226, .ref 227, .ref 228, .ref 229, .ref 230, .ref 231, .ref 232, .ref 233, .ref 234, .ref 235, .ref 236, .ref 237, .ref 238, .ref 239, .ref 240, .ref 241, .ref 242, .ref 243, .ref 244, .ref 245, .ref 246, .ref 247, .ref 248, .ref 249, .ref 250, .ref 251, .ref 252, .ref 253, .ref 254, .ref 255, .ref 256, .ref 257, .ref 258, .ref 259, .ref 260, .ref 261], vm := .none },
  { cls := 55, slots := #[], vm := .none },
  { cls := 55, slots := #[], vm := .none },
  { cls := 0, slots := #[], vm := .none },
  { cls := 25, slots := #[.null, .int 0], vm := .none }]
def classes : Array Class := #[k0, k1, k2, k3, k4, k5, k6, k7, k8, k9, k10, k11, k12, k13, k14, k15, k16, k17, k18, k19, k20, k21, k22, k23, k24, k25, k26, k27, k28, k29, k30, k31, k32, k33, k34, k35, k36, k37, k38, k39, k40, k41, k42, k43, k44, k45, k46, k47, k48, k49, k50, k51, k52, k53, k54, k55, k56, k57]
def interned : List (Array UInt16 × Addr) := []
def slotsUsed : Nat := 543
def theMethod : MethodId := ⟨1, 2⟩
def args0 : Array Value := #[.int 63, .int 4, .int 0, .int 2]
def aboutOver (below : List Frame) : State where
  vm := { classes := classes, interned := interned.toArray }
  heap := heap
  slotsUsed := slotsUsed
  threads := #[{ frames := .invoking theMethod args0 :: below }]
def below0 : List Frame := [.native { method := ⟨0, 0⟩, args := #[] }]
def about1 : State := aboutOver below0
def p0 : Program := .bare "" "" ""
def e0 : Env := launch0.env 0 0 0
theorem w_frames : about1.frames = Frame.invoking theMethod args0 :: below0 := rfl
theorem w_args : argsFit about1.vm theMethod args0 = true := by decide +kernel
theorem w_heap : heapFits about1 = true := by decide +kernel
theorem w_runnable : about1.curStatus? = some .runnable := by decide +kernel
theorem w_alone : about1.alone = true := by decide +kernel
theorem w_named : about1.methodNamed? x = some theMethod := by decide +kernel
theorem w_hears : about1.hears theMethod below0 = true := by decide +kernel
theorem w_ripe : about1.ripe theMethod args0 below0 = true := by decide +kernel
theorem w_running : about1.status = .running := rfl
theorem w_room : about1.hasRoom e0.platform room_1 = true :=
  launch0.hasRoom_least _ room_1 (by decide +kernel) (by decide +kernel) (by decide +kernel) (by decide +kernel) (by decide +kernel) (by decide +kernel)
theorem allAtoms_all (ts : List Jvm.Cond) (a : Array Jvm.Value) (st : Jvm.State) : (allAtoms ts).before a st = ts.all (fun c => c.before a st) := by
  induction ts with
  | nil => rfl
  | cons c t ih =>
    show (Jvm.Cond.and c (allAtoms t)).before a st = _
    rw [Jvm.Cond.before_and, ih, List.all_cons]
def words1 : List Jvm.Cond := Jvm.Cond.code x code maxLocals ret :: tables_1
theorem code_word {y : MethodName} {bytes : ByteArray} {mx : Nat} {rt : Option FieldType} {a : Array Value} {s : State} {m : MethodId} {meth : Method} {c : Code} (h1 : s.methodNamed? y = some m) (h2 : s.vm.method? m = some meth) (h3 : meth.code = some c) (h4 : c.code = bytes)
    (h5 : (c.maxLocals == mx && c.exceptionTable.isEmpty && decide (c.maxStack ≤ mostOperands) && decide (meth.sig.returnType = rt) && !meth.locks && decide (parseMethodDescriptor y.desc = some meth.sig)) = true) : (Jvm.Cond.code y bytes mx rt).before a s = true := by
  simp only [Bool.and_eq_true, beq_iff_eq, Bool.not_eq_true', decide_eq_true_eq] at h5
  obtain ⟨⟨⟨⟨⟨g1, g2⟩, g3⟩, g4⟩, g5⟩, g6⟩ := h5
  simp [Cond.before, Cond.holds, Cond.value, h1, h2, h3, h4, g1, g2, g3, g4, g5, g6]
theorem cw {y : MethodName} {bytes : ByteArray} {mx : Nat} {rt : Option FieldType} (m : MethodId) (meth : Method) (c : Code) (h : about1.methodNamed? y = some m ∧ (c.maxLocals == mx && c.exceptionTable.isEmpty && decide (c.maxStack ≤ mostOperands) && decide (meth.sig.returnType = rt) && !meth.locks && decide (parseMethodDescriptor y.desc = some meth.sig)) = true) (h2 : about1.vm.method? m = some meth) (h3 : meth.code = some c) (h4 : c.code = bytes) : B about1 args0 (.code y bytes mx rt) := code_word h.1 h2 h3 h4 h.2
def isCode : Jvm.Cond → Bool
  | .code _ _ _ _ => true
  | _ => false
theorem all_split {L : List Jvm.Cond} {P : Jvm.Cond → Bool} (h1 : L.all (fun c => isCode c || P c) = true) (h2 : ∀ c ∈ L.filter isCode, P c = true) : L.all P = true := by
  refine List.all_eq_true.mpr fun c hc => ?_
  have h := List.all_eq_true.mp h1 c hc
  rcases Bool.eq_false_or_eq_true (isCode c) with hi | hi
  · exact h2 c (List.mem_filter.mpr ⟨hc, hi⟩)
  · simpa [hi] using h
theorem w_c0 : B about1 args0 (.code x code maxLocals ret) := cw ⟨1, 2⟩ k1m2 k1c2 (by decide +kernel) rfl rfl rfl
theorem w_c1 : B about1 args0 (.code ⟨Q8, Q57, Q63⟩ C61 1 none) := cw ⟨11, 0⟩ k11m0 k11c0 (by decide +kernel) rfl rfl rfl
theorem w_c2 : B about1 args0 (.code ⟨Q26, Q57, Q63⟩ C62 1 none) := cw ⟨7, 0⟩ k7m0 k7c0 (by decide +kernel) rfl rfl rfl
theorem w_c3 : B about1 args0 (.code ⟨Q40, Q57, Q63⟩ C78 1 none) := cw ⟨4, 0⟩ k4m0 k4c0 (by decide +kernel) rfl rfl rfl
theorem w_c4 : B about1 args0 (.code ⟨Q3, Q57, Q63⟩ object_method_1_code 1 none) := cw ⟨0, 0⟩ k0m0 k0c0 (by decide +kernel) rfl rfl rfl
theorem w_c5 : B about1 args0 (.code ⟨Q17, "cat", Q69⟩ method_2_code 3 (some (.object Q11))) := cw ⟨1, 1⟩ k1m1 k1c1 (by decide +kernel) rfl rfl rfl
theorem w_c6 : B about1 args0 (.code ⟨Q10, Q122, Q103⟩ C20 1 (some (.object Q10))) := cw ⟨16, 2⟩ k16m2 k16c2 (by decide +kernel) rfl rfl rfl
theorem w_c7 : B about1 args0 (.code ⟨Q78, "canEncode", "(C)Z"⟩ C41 1 (some .boolean)) := cw ⟨17, 1⟩ k17m1 k17c1 (by decide +kernel) rfl rfl rfl
theorem w_c8 : B about1 args0 (.code ⟨Q78, "toBytes", "(C)[B"⟩ C35 1 (some (.array .byte))) := cw ⟨17, 3⟩ k17m3 k17c3 (by decide +kernel) rfl rfl rfl
theorem w_c9 : B about1 args0 (.code ⟨Q10, Q57, "([BB)V"⟩ C43 3 none) := cw ⟨16, 3⟩ k16m3 k16c3 (by decide +kernel) rfl rfl rfl
theorem w_c10 : B about1 args0 (.code ⟨Q8, "add", Q86⟩ C16 2 (some .boolean)) := cw ⟨11, 9⟩ k11m9 k11c9 (by decide +kernel) rfl rfl rfl
theorem w_c11 : B about1 args0 (.code ⟨Q8, "add", Q89⟩ C15 4 none) := cw ⟨11, 8⟩ k11m8 k11c8 (by decide +kernel) rfl rfl rfl
theorem w_c12 : B about1 args0 (.code ⟨Q8, "grow", Q75⟩ C57 1 (some (.array (.object Q3)))) := cw ⟨11, 2⟩ k11m2 k11c2 (by decide +kernel) rfl rfl rfl
theorem w_c13 : B about1 args0 (.code ⟨Q8, "grow", Q117⟩ C21 4 (some (.array (.object Q3)))) := cw ⟨11, 1⟩ k11m1 k11c1 (by decide +kernel) rfl rfl rfl
theorem w_c14 : B about1 args0 (.code ⟨Q93, "max", Q92⟩ C50 2 (some .int)) := cw ⟨18, 1⟩ k18m1 k18c1 (by decide +kernel) rfl rfl rfl
theorem w_c15 : B about1 args0 (.code ⟨Q11, Q57, Q65⟩ C38 3 none) := cw ⟨20, 0⟩ k20m0 k20c0 (by decide +kernel) rfl rfl rfl
theorem w_c16 : B about1 args0 (.code ⟨Q112, Q57, Q63⟩ C79 1 none) := cw ⟨19, 0⟩ k19m0 k19c0 (by decide +kernel) rfl rfl rfl
theorem w_c17 : B about1 args0 (.code ⟨Q19, Q105, Q61⟩ C73 1 (some (.object Q19))) := cw ⟨6, 5⟩ k6m5 k6c5 (by decide +kernel) rfl rfl rfl
theorem w_c18 : B about1 args0 (.code ⟨Q18, "listCopy", Q61⟩ C33 2 (some (.object Q19))) := cw ⟨21, 1⟩ k21m1 k21c1 (by decide +kernel) rfl rfl rfl
theorem w_c19 : B about1 args0 (.code M19 C63 1 (some .boolean)) := cw ⟨11, 4⟩ k11m4 k11c4 (by decide +kernel) rfl rfl rfl
theorem w_c20 : B about1 args0 (.code ⟨Q8, "toArray", Q75⟩ C54 1 (some (.array (.object Q3)))) := cw ⟨11, 5⟩ k11m5 k11c5 (by decide +kernel) rfl rfl rfl
theorem w_c21 : B about1 args0 (.code ⟨Q42, Q105, Q79⟩ C52 2 (some (.array (.object Q3)))) := cw ⟨26, 4⟩ k26m4 k26c4 (by decide +kernel) rfl rfl rfl
theorem w_c22 : B about1 args0 (.code ⟨Q42, Q105, Q73⟩ C17 4 (some (.array (.object Q3)))) := cw ⟨26, 5⟩ k26m5 k26c5 (by decide +kernel) rfl rfl rfl
theorem w_c23 : B about1 args0 (.code ⟨Q93, "min", Q92⟩ C45 2 (some .int)) := cw ⟨18, 2⟩ k18m2 k18c2 (by decide +kernel) rfl rfl rfl
theorem w_c24 : B about1 args0 (.code ⟨Q19, "of", Q68⟩ C22 2 (some (.object Q19))) := cw ⟨6, 4⟩ k6m4 k6c4 (by decide +kernel) rfl rfl rfl
theorem w_c25 : B about1 args0 (.code ⟨Q18, Q128, Q68⟩ C12 3 (some (.object Q19))) := cw ⟨21, 2⟩ k21m2 k21c2 (by decide +kernel) rfl rfl rfl
theorem w_c26 : B about1 args0 (.code ⟨Q90, Q118, Q72⟩ C74 1 (some (.object Q3))) := cw ⟨28, 1⟩ k28m1 k28c1 (by decide +kernel) rfl rfl rfl
theorem w_c27 : B about1 args0 (.code ⟨Q13, Q57, Q98⟩ C47 3 none) := cw ⟨25, 0⟩ k25m0 k25c0 (by decide +kernel) rfl rfl rfl
theorem w_c28 : B about1 args0 (.code ⟨Q23, Q57, Q63⟩ C80 1 none) := cw ⟨23, 0⟩ k23m0 k23c0 (by decide +kernel) rfl rfl rfl
theorem w_c29 : B about1 args0 (.code ⟨Q45, Q57, Q63⟩ C81 1 none) := cw ⟨22, 0⟩ k22m0 k22c0 (by decide +kernel) rfl rfl rfl
theorem w_c30 : B about1 args0 (.code ⟨Q4, Q57, Q65⟩ C2 8 none) := cw ⟨29, 0⟩ k29m0 k29c0 (by decide +kernel) rfl rfl rfl
theorem w_c31 : B about1 args0 (.code ⟨Q15, Q57, Q63⟩ C64 1 none) := cw ⟨32, 1⟩ k32m1 k32c1 (by decide +kernel) rfl rfl rfl
theorem w_c32 : B about1 args0 (.code ⟨Q104, Q57, Q63⟩ C82 1 none) := cw ⟨31, 0⟩ k31m0 k31c0 (by decide +kernel) rfl rfl rfl
theorem w_c33 : B about1 args0 (.code ⟨Q16, Q57, Q82⟩ C42 3 none) := cw ⟨24, 0⟩ k24m0 k24c0 (by decide +kernel) rfl rfl rfl
theorem w_c34 : B about1 args0 (.code ⟨Q8, "get", Q66⟩ C46 2 (some (.object Q3))) := cw ⟨11, 7⟩ k11m7 k11c7 (by decide +kernel) rfl rfl rfl
theorem w_c35 : B about1 args0 (.code ⟨Q90, Q111, Q92⟩ C67 2 (some .int)) := cw ⟨28, 2⟩ k28m2 k28c2 (by decide +kernel) rfl rfl rfl
theorem w_c36 : B about1 args0 (.code ⟨Q91, Q111, Q84⟩ C55 3 (some .int)) := cw ⟨33, 1⟩ k33m1 k33c1 (by decide +kernel) rfl rfl rfl
theorem w_c37 : B about1 args0 (.code ⟨Q8, Q55, Q66⟩ C68 2 (some (.object Q3))) := cw ⟨11, 6⟩ k11m6 k11c6 (by decide +kernel) rfl rfl rfl
theorem w_c38 : B about1 args0 (.code ⟨Q11, Q32, Q114⟩ C83 1 (some (.object Q19))) := cw ⟨20, 1⟩ k20m1 k20c1 (by decide +kernel) rfl rfl rfl
theorem w_c39 : B about1 args0 (.code ⟨Q13, Q35, Q80⟩ C76 1 (some .int)) := cw ⟨25, 1⟩ k25m1 k25c1 (by decide +kernel) rfl rfl rfl
theorem w_c40 : B about1 args0 (.code ⟨Q8, Q35, Q80⟩ C70 1 (some .int)) := cw ⟨11, 3⟩ k11m3 k11c3 (by decide +kernel) rfl rfl rfl
theorem w_c41 : B about1 args0 (.code ⟨Q8, Q109, Q70⟩ C69 1 (some (.object Q47))) := cw ⟨11, 10⟩ k11m10 k11c10 (by decide +kernel) rfl rfl rfl
theorem w_c42 : B about1 args0 (.code ⟨Q14, Q57, Q96⟩ C34 2 none) := cw ⟨35, 0⟩ k35m0 k35c0 (by decide +kernel) rfl rfl rfl
theorem w_c43 : B about1 args0 (.code ⟨Q14, Q115, "()Z"⟩ C39 1 (some .boolean)) := cw ⟨35, 1⟩ k35m1 k35c1 (by decide +kernel) rfl rfl rfl
theorem w_c44 : B about1 args0 (.code ⟨Q14, "next", Q83⟩ C7 3 (some (.object Q3))) := cw ⟨35, 2⟩ k35m2 k35c2 (by decide +kernel) rfl rfl rfl
theorem w_c45 : B about1 args0 (.code ⟨Q14, Q119, Q63⟩ C51 1 none) := cw ⟨35, 3⟩ k35m3 k35c3 (by decide +kernel) rfl rfl rfl
theorem w_c46 : B about1 args0 (.code ⟨Q23, Q109, Q70⟩ C56 1 (some (.object Q47))) := cw ⟨23, 1⟩ k23m1 k23c1 (by decide +kernel) rfl rfl rfl
theorem w_c47 : B about1 args0 (.code ⟨Q9, Q57, Q110⟩ C31 3 none) := cw ⟨37, 0⟩ k37m0 k37c0 (by decide +kernel) rfl rfl rfl
theorem w_c48 : B about1 args0 (.code ⟨Q9, Q115, "()Z"⟩ C40 1 (some .boolean)) := cw ⟨37, 1⟩ k37m1 k37c1 (by decide +kernel) rfl rfl rfl
theorem w_c49 : B about1 args0 (.code ⟨Q13, "get", Q66⟩ C58 2 (some (.object Q3))) := cw ⟨25, 2⟩ k25m2 k25c2 (by decide +kernel) rfl rfl rfl
theorem w_c50 : B about1 args0 (.code ⟨Q24, Q122, Q100⟩ C23 1 (some (.object Q24))) := cw ⟨39, 0⟩ k39m0 k39c0 (by decide +kernel) rfl rfl rfl
theorem w_c51 : B about1 args0 (.code ⟨Q15, "put", Q62⟩ C32 3 (some (.object Q3))) := cw ⟨32, 2⟩ k32m2 k32c2 (by decide +kernel) rfl rfl rfl
theorem w_c52 : B about1 args0 (.code ⟨Q15, "hash", Q121⟩ C27 2 (some .int)) := cw ⟨32, 0⟩ k32m0 k32c0 (by decide +kernel) rfl rfl rfl
theorem w_c53 : B about1 args0 (.code ⟨Q10, Q108, Q80⟩ C8 2 (some .int)) := cw ⟨16, 1⟩ k16m1 k16c1 (by decide +kernel) rfl rfl rfl
theorem w_c54 : B about1 args0 (.code M68 C48 1 (some .boolean)) := cw ⟨16, 4⟩ k16m4 k16c4 (by decide +kernel) rfl rfl rfl
theorem w_c55 : B about1 args0 (.code ⟨Q78, Q108, "([B)I"⟩ C28 1 (some .int)) := cw ⟨17, 2⟩ k17m2 k17c2 (by decide +kernel) rfl rfl rfl
theorem w_c56 : B about1 args0 (.code ⟨Q15, "putVal", Q71⟩ C3 13 (some (.object Q3))) := cw ⟨32, 3⟩ k32m3 k32c3 (by decide +kernel) rfl rfl rfl
theorem w_c57 : B about1 args0 (.code ⟨Q15, "resize", Q102⟩ C6 14 (some (.array (.object Q6)))) := cw ⟨32, 4⟩ k32m4 k32c4 (by decide +kernel) rfl rfl rfl
theorem w_c58 : B about1 args0 (.code ⟨Q15, "newNode", Q64⟩ C36 5 (some (.object Q6))) := cw ⟨32, 5⟩ k32m5 k32c5 (by decide +kernel) rfl rfl rfl
theorem w_c59 : B about1 args0 (.code ⟨Q6, Q57, Q67⟩ C18 5 none) := cw ⟨42, 0⟩ k42m0 k42c0 (by decide +kernel) rfl rfl rfl
theorem w_c60 : B about1 args0 (.code ⟨Q15, Q127, "(Z)V"⟩ jdk_69_method_52_code 2 none) := cw ⟨32, 6⟩ k32m6 k32c6 (by decide +kernel) rfl rfl rfl
theorem w_c61 : B about1 args0 (.code ⟨Q1, Q57, Q74⟩ C1 2 none) := cw ⟨43, 0⟩ k43m0 k43c0 (by decide +kernel) rfl rfl rfl
theorem w_c62 : B about1 args0 (.code ⟨Q4, Q35, Q80⟩ C77 1 (some .int)) := cw ⟨29, 1⟩ k29m1 k29c1 (by decide +kernel) rfl rfl rfl
theorem w_c63 : B about1 args0 (.code ⟨Q4, Q129, Q80⟩ C71 1 (some .int)) := cw ⟨29, 2⟩ k29m2 k29c2 (by decide +kernel) rfl rfl rfl
theorem w_c64 : B about1 args0 (.code ⟨Q16, Q35, Q80⟩ C59 1 (some .int)) := cw ⟨24, 1⟩ k24m1 k24c1 (by decide +kernel) rfl rfl rfl
theorem w_c65 : B about1 args0 (.code ⟨Q4, Q133, Q80⟩ C72 1 (some .int)) := cw ⟨29, 3⟩ k29m3 k29c3 (by decide +kernel) rfl rfl rfl
theorem w_c66 : B about1 args0 (.code ⟨Q4, "lineCount", Q80⟩ C49 1 (some .int)) := cw ⟨29, 7⟩ k29m7 k29c7 (by decide +kernel) rfl rfl rfl
theorem w_c67 : B about1 args0 (.code M81 C25 4 none) := cw ⟨26, 3⟩ k26m3 k26c3 (by decide +kernel) rfl rfl rfl
theorem w_c68 : B about1 args0 (.code M82 C26 5 none) := cw ⟨26, 2⟩ k26m2 k26c2 (by decide +kernel) rfl rfl rfl
theorem w_c69 : B about1 args0 (.code M83 C11 5 (some .int)) := cw ⟨43, 2⟩ k43m2 k43c2 (by decide +kernel) rfl rfl rfl
theorem w_c70 : B about1 args0 (.code ⟨Q1, "cell", Q92⟩ C19 3 (some .int)) := cw ⟨43, 1⟩ k43m1 k43c1 (by decide +kernel) rfl rfl rfl
theorem w_c71 : B about1 args0 (.code ⟨Q1, "fill", Q60⟩ C37 7 none) := cw ⟨43, 3⟩ k43m3 k43c3 (by decide +kernel) rfl rfl rfl
theorem w_c72 : B about1 args0 (.code ⟨Q1, "fill", Q59⟩ C0 12 none) := cw ⟨43, 4⟩ k43m4 k43c4 (by decide +kernel) rfl rfl rfl
theorem w_c73 : B about1 args0 (.code M87 C29 4 (some (.array .int))) := cw ⟨43, 5⟩ k43m5 k43c5 (by decide +kernel) rfl rfl rfl
theorem w_c74 : B about1 args0 (.code M88 C60 1 none) := cw ⟨26, 1⟩ k26m1 k26c1 (by decide +kernel) rfl rfl rfl
theorem w_c75 : B about1 args0 (.code M89 C30 7 none) := cw ⟨45, 1⟩ k45m1 k45c1 (by decide +kernel) rfl rfl rfl
theorem w_c76 : B about1 args0 (.code ⟨Q51, "sort", Q85⟩ C10 21 none) := cw ⟨45, 2⟩ k45m2 k45c2 (by decide +kernel) rfl rfl rfl
theorem w_c77 : B about1 args0 (.code M91 C53 6 none) := cw ⟨45, 3⟩ k45m3 k45c3 (by decide +kernel) rfl rfl rfl
theorem w_c78 : B about1 args0 (.code ⟨Q5, Q57, Q58⟩ C9 9 none) := cw ⟨44, 0⟩ k44m0 k44c0 (by decide +kernel) rfl rfl rfl
theorem w_c79 : B about1 args0 (.code ⟨Q5, "number", Q80⟩ C75 1 (some .int)) := cw ⟨44, 1⟩ k44m1 k44c1 (by decide +kernel) rfl rfl rfl
theorem w_c80 : B about1 args0 (.code M94 C4 6 none) := cw ⟨43, 6⟩ k43m6 k43c6 (by decide +kernel) rfl rfl rfl
theorem w_c81 : B about1 args0 (.code M95 C65 2 (some .int)) := cw ⟨29, 4⟩ k29m4 k29c4 (by decide +kernel) rfl rfl rfl
theorem w_c82 : B about1 args0 (.code ⟨Q4, "line", Q92⟩ C44 3 (some .int)) := cw ⟨29, 6⟩ k29m6 k29c6 (by decide +kernel) rfl rfl rfl
theorem w_c83 : B about1 args0 (.code M97 C5 5 none) := cw ⟨43, 7⟩ k43m7 k43c7 (by decide +kernel) rfl rfl rfl
theorem w_c84 : B about1 args0 (.code M98 C66 2 (some .int)) := cw ⟨29, 5⟩ k29m5 k29c5 (by decide +kernel) rfl rfl rfl
theorem w_c85 : B about1 args0 (.code M99 C13 6 none) := cw ⟨43, 9⟩ k43m9 k43c9 (by decide +kernel) rfl rfl rfl
theorem w_c86 : B about1 args0 (.code M100 C14 4 none) := cw ⟨43, 8⟩ k43m8 k43c8 (by decide +kernel) rfl rfl rfl
def codes1 : List Jvm.Cond := [Jvm.Cond.code x code maxLocals ret, .code ⟨Q8, Q57, Q63⟩ C61 1 none, .code ⟨Q26, Q57, Q63⟩ C62 1 none, .code ⟨Q40, Q57, Q63⟩ C78 1 none, .code ⟨Q3, Q57, Q63⟩ object_method_1_code 1 none, .code ⟨Q17, "cat", Q69⟩ method_2_code 3 (some (.object Q11)), .code ⟨Q10, Q122, Q103⟩ C20 1 (some (.object Q10)), .code ⟨Q78, "canEncode", "(C)Z"⟩ C41 1 (some .boolean), .code ⟨Q78, "toBytes", "(C)[B"⟩ C35 1 (some (.array .byte)), .code ⟨Q10, Q57, "([BB)V"⟩ C43 3 none, .code ⟨Q8, "add", Q86⟩ C16 2 (some .boolean), .code ⟨Q8, "add", Q89⟩ C15 4 none, .code ⟨Q8, "grow", Q75⟩ C57 1 (some (.array (.object Q3))), .code ⟨Q8, "grow", Q117⟩ C21 4 (some (.array (.object Q3))), .code ⟨Q93, "max", Q92⟩ C50 2 (some .int), .code ⟨Q11, Q57, Q65⟩ C38 3 none, .code ⟨Q112, Q57, Q63⟩ C79 1 none, .code ⟨Q19, Q105, Q61⟩ C73 1 (some (.object Q19)), .code ⟨Q18, "listCopy", Q61⟩ C33 2 (some (.object Q19)), .code M19 C63 1 (some .boolean), .code ⟨Q8, "toArray", Q75⟩ C54 1 (some (.array (.object Q3))), .code ⟨Q42, Q105, Q79⟩ C52 2 (some (.array (.object Q3))), .code ⟨Q42, Q105, Q73⟩ C17 4 (some (.array (.object Q3))), .code ⟨Q93, "min", Q92⟩ C45 2 (some .int), .code ⟨Q19, "of", Q68⟩ C22 2 (some (.object Q19)), .code ⟨Q18, Q128, Q68⟩ C12 3 (some (.object Q19)), .code ⟨Q90, Q118, Q72⟩ C74 1 (some (.object Q3)), .code ⟨Q13, Q57, Q98⟩ C47 3 none, .code ⟨Q23, Q57, Q63⟩ C80 1 none, .code ⟨Q45, Q57, Q63⟩ C81 1 none, .code ⟨Q4, Q57, Q65⟩ C2 8 none, .code ⟨Q15, Q57, Q63⟩ C64 1 none, .code ⟨Q104, Q57, Q63⟩ C82 1 none, .code ⟨Q16, Q57, Q82⟩ C42 3 none, .code ⟨Q8, "get", Q66⟩ C46 2 (some (.object Q3)), .code ⟨Q90, Q111, Q92⟩ C67 2 (some .int), .code ⟨Q91, Q111, Q84⟩ C55 3 (some .int), .code ⟨Q8, Q55, Q66⟩ C68 2 (some (.object Q3)), .code ⟨Q11, Q32, Q114⟩ C83 1 (some (.object Q19)), .code ⟨Q13, Q35, Q80⟩ C76 1 (some .int), .code ⟨Q8, Q35, Q80⟩ C70 1 (some .int), .code ⟨Q8, Q109, Q70⟩ C69 1 (some (.object Q47)), .code ⟨Q14, Q57, Q96⟩ C34 2 none, .code ⟨Q14, Q115, "()Z"⟩ C39 1 (some .boolean), .code ⟨Q14, "next", Q83⟩ C7 3 (some (.object Q3)), .code ⟨Q14, Q119, Q63⟩ C51 1 none, .code ⟨Q23, Q109, Q70⟩ C56 1 (some (.object Q47)), .code ⟨Q9, Q57, Q110⟩ C31 3 none, .code ⟨Q9, Q115, "()Z"⟩ C40 1 (some .boolean), .code ⟨Q13, "get", Q66⟩ C58 2 (some (.object Q3)), .code ⟨Q24, Q122, Q100⟩ C23 1 (some (.object Q24)), .code ⟨Q15, "put", Q62⟩ C32 3 (some (.object Q3)), .code ⟨Q15, "hash", Q121⟩ C27 2 (some .int), .code ⟨Q10, Q108, Q80⟩ C8 2 (some .int), .code M68 C48 1 (some .boolean), .code ⟨Q78, Q108, "([B)I"⟩ C28 1 (some .int), .code ⟨Q15, "putVal", Q71⟩ C3 13 (some (.object Q3)), .code ⟨Q15, "resize", Q102⟩ C6 14 (some (.array (.object Q6))), .code ⟨Q15, "newNode", Q64⟩ C36 5 (some (.object Q6)), .code ⟨Q6, Q57, Q67⟩ C18 5 none, .code ⟨Q15, Q127, "(Z)V"⟩ jdk_69_method_52_code 2 none, .code ⟨Q1, Q57, Q74⟩ C1 2 none, .code ⟨Q4, Q35, Q80⟩ C77 1 (some .int), .code ⟨Q4, Q129, Q80⟩ C71 1 (some .int), .code ⟨Q16, Q35, Q80⟩ C59 1 (some .int), .code ⟨Q4, Q133, Q80⟩ C72 1 (some .int), .code ⟨Q4, "lineCount", Q80⟩ C49 1 (some .int), .code M81 C25 4 none, .code M82 C26 5 none, .code M83 C11 5 (some .int), .code ⟨Q1, "cell", Q92⟩ C19 3 (some .int), .code ⟨Q1, "fill", Q60⟩ C37 7 none, .code ⟨Q1, "fill", Q59⟩ C0 12 none, .code M87 C29 4 (some (.array .int)), .code M88 C60 1 none, .code M89 C30 7 none, .code ⟨Q51, "sort", Q85⟩ C10 21 none, .code M91 C53 6 none, .code ⟨Q5, Q57, Q58⟩ C9 9 none, .code ⟨Q5, "number", Q80⟩ C75 1 (some .int), .code M94 C4 6 none, .code M95 C65 2 (some .int), .code ⟨Q4, "line", Q92⟩ C44 3 (some .int), .code M97 C5 5 none, .code M98 C66 2 (some .int), .code M99 C13 6 none, .code M100 C14 4 none]
theorem codes_eq : words1.filter isCode = codes1 := rfl
theorem w_codes : ∀ c ∈ words1.filter isCode, c.before args0 about1 = true := by
  rw [codes_eq]
  intro c hc
  simp only [codes1, List.mem_cons, List.not_mem_nil, or_false] at hc
  rcases hc with rfl | rfl | rfl | rfl | rfl | rfl | rfl | rfl | rfl | rfl | rfl | rfl | rfl | rfl | rfl | rfl | rfl | rfl | rfl | rfl | rfl | rfl | rfl | rfl | rfl | rfl | rfl | rfl | rfl | rfl | rfl | rfl | rfl | rfl | rfl | rfl | rfl | rfl | rfl | rfl | rfl | rfl | rfl | rfl | rfl | rfl | rfl | rfl | rfl | rfl | rfl | rfl | rfl | rfl | rfl | rfl | rfl | rfl | rfl | rfl | rfl | rfl | rfl | rfl | rfl | rfl | rfl | rfl | rfl | rfl | rfl | rfl | rfl | rfl | rfl | rfl | rfl | rfl | rfl | rfl | rfl | rfl | rfl | rfl | rfl | rfl | rfl
  · exact w_c0
  · exact w_c1
  · exact w_c2
  · exact w_c3
  · exact w_c4
  · exact w_c5
  · exact w_c6
  · exact w_c7
  · exact w_c8
  · exact w_c9
  · exact w_c10
  · exact w_c11
  · exact w_c12
  · exact w_c13
  · exact w_c14
  · exact w_c15
  · exact w_c16
  · exact w_c17
  · exact w_c18
  · exact w_c19
  · exact w_c20
  · exact w_c21
  · exact w_c22
  · exact w_c23
  · exact w_c24
  · exact w_c25
  · exact w_c26
  · exact w_c27
  · exact w_c28
  · exact w_c29
  · exact w_c30
  · exact w_c31
  · exact w_c32
  · exact w_c33
  · exact w_c34
  · exact w_c35
  · exact w_c36
  · exact w_c37
  · exact w_c38
  · exact w_c39
  · exact w_c40
  · exact w_c41
  · exact w_c42
  · exact w_c43
  · exact w_c44
  · exact w_c45
  · exact w_c46
  · exact w_c47
  · exact w_c48
  · exact w_c49
  · exact w_c50
  · exact w_c51
  · exact w_c52
  · exact w_c53
  · exact w_c54
  · exact w_c55
  · exact w_c56
  · exact w_c57
  · exact w_c58
  · exact w_c59
  · exact w_c60
  · exact w_c61
  · exact w_c62
  · exact w_c63
  · exact w_c64
  · exact w_c65
  · exact w_c66
  · exact w_c67
  · exact w_c68
  · exact w_c69
  · exact w_c70
  · exact w_c71
  · exact w_c72
  · exact w_c73
  · exact w_c74
  · exact w_c75
  · exact w_c76
  · exact w_c77
  · exact w_c78
  · exact w_c79
  · exact w_c80
  · exact w_c81
  · exact w_c82
  · exact w_c83
  · exact w_c84
  · exact w_c85
  · exact w_c86
theorem w_t1 : (words1.take 96).all (fun c => isCode c || c.before args0 about1) = true := by decide +kernel
theorem w_t2 : ((words1.drop 96).take 96).all (fun c => isCode c || c.before args0 about1) = true := by decide +kernel
theorem w_t3 : (((words1.drop 96).drop 96).take 96).all (fun c => isCode c || c.before args0 about1) = true := by decide +kernel
theorem w_t4 : ((((words1.drop 96).drop 96).drop 96).take 96).all (fun c => isCode c || c.before args0 about1) = true := by decide +kernel
theorem w_t5 : (((((words1.drop 96).drop 96).drop 96).drop 96).take 96).all (fun c => isCode c || c.before args0 about1) = true := by decide +kernel
theorem w_t6 : ((((((words1.drop 96).drop 96).drop 96).drop 96).drop 96).take 96).all (fun c => isCode c || c.before args0 about1) = true := by decide +kernel
theorem w_t7 : (((((((words1.drop 96).drop 96).drop 96).drop 96).drop 96).drop 96).take 96).all (fun c => isCode c || c.before args0 about1) = true := by decide +kernel
theorem w_t8 : (((((((words1.drop 96).drop 96).drop 96).drop 96).drop 96).drop 96).drop 96).all (fun c => isCode c || c.before args0 about1) = true := by decide +kernel
theorem w_tables : (allAtoms (Jvm.Cond.code x code maxLocals ret :: tables_1)).before args0 about1 = true := by
  rw [allAtoms_all]
  show words1.all (fun c => c.before args0 about1) = true
  refine all_split ?_ w_codes
  rw [← List.take_append_drop 96 words1, List.all_append, w_t1, ← List.take_append_drop 96 (words1.drop 96), List.all_append, w_t2, ← List.take_append_drop 96 ((words1.drop 96).drop 96), List.all_append, w_t3, ← List.take_append_drop 96 (((words1.drop 96).drop 96).drop 96), List.all_append, w_t4, ← List.take_append_drop 96 ((((words1.drop 96).drop 96).drop 96).drop 96), List.all_append, w_t5, ← List.take_append_drop 96 (((((words1.drop 96).drop 96).drop 96).drop 96).drop 96), List.all_append, w_t6, ← List.take_append_drop 96 ((((((words1.drop 96).drop 96).drop 96).drop 96).drop 96).drop 96), List.all_append, w_t7, w_t8]
  rfl
theorem w_rest : rest_1_c.before args0 about1 = true := by decide +kernel
theorem w_case : (Jvm.Cond.and given_1 narrow_1).before args0 about1 = true := by decide +kernel
theorem w_applies : (headSpec (Jvm.Cond.code x code maxLocals ret :: tables_1) room_1).applies x e0.platform about1 = true :=
  (Spec.applies_iff w_frames).mpr ⟨w_running, w_runnable, w_alone, w_named, w_hears, w_ripe, w_room, w_tables⟩
theorem atStart : AtStart classFile x code maxLocals ret World_1 tables_1 room_1 Calls_1 rest_1 Pre_1 launch0 p0 e0 about1 theMethod args0 below0 :=
  ⟨lists_1, trivial, launch0.admits_env _ _ _, launch0.least_env, fairChoices_fair.cas, fairChoices_fair.clock, w_frames, w_args, w_heap, w_applies, ⟨⟨55, k55, 5, by decide +kernel, rfl, rfl, _, rfl, rfl⟩, trivial⟩, w_rest, w_case⟩
end start1
theorem witness_1 : WitnessClaimed_1 := ⟨start1.p0, start1.e0, start1.about1, start1.theMethod, start1.args0, start1.below0, start1.atStart⟩
end Jvm.Pilot.@@N@@
