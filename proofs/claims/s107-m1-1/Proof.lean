import JvmDerived
import JvmDerived.Pilot.@@N@@Statement
import JvmDerived.Pilot.@@N@@Code
set_option linter.unusedVariables false
set_option linter.unusedSimpArgs false
namespace Jvm.Pilot.@@N@@
open Jvm Jvm.ClassFile Sem Op Lib Jvm.Free Jvm.Stand Jvm.LawKit Jvm.RoadKit Bundle Jvm.Pilot.@@N@@.Jvm.D
section Own
variable {p : Program} {l : Launch} {e : Env} {R : Room} {s : State} {m : MethodId} {args : Array Value} {below : List Frame} {meth : Method} {c : Code} {T T' : State} {locs : List Loc} {cells slots : Nat} {Z : State} {a0 : Array Value} {h : Heap} {P : State → Prop} {pc q : Nat} {Ls : Array Slot} {S : List Value} {g g' : JFrame}
/-- from this state on the run comes to one of which P holds -/
def Go (p : Program) (e : Env) (below : List Frame) (P : State → Prop) (T : State) (g : JFrame) : Prop := ∃ n, Steps p.tables e below (T.setTop g) n ∧ P n
theorem Go.by_ (k : ∀ t, Steps p.tables e below (T'.setTop g') t → Steps p.tables e below (T.setTop g) t) (h : Go p e below P T' g') : Go p e below P T g := by
  obtain ⟨n, a, b⟩ := h; exact ⟨n, k n a, b⟩
theorem Go.tr (k : Steps p.tables e below (T.setTop g) (T'.setTop g')) (h : Go p e below P T' g') : Go p e below P T g := by
  obtain ⟨n, a, b⟩ := h; exact ⟨n, k.trans a, b⟩
/-- what the whole body knows of its method -/
def Kt (p : Program) (Z s : State) (m : MethodId) (meth : Method) (c : Code) (y : MethodName) (bytes : ByteArray) (maxL : Nat) (ret : Option FieldType) : Prop :=
  p.tables.exec = Jvm.exec ∧ Z.Warmed39 s.vm ∧ c.code = bytes ∧ c.maxLocals = maxL ∧ s.vm.findClass y.cls = some m.cls ∧ meth.sig.returnType = ret ∧ meth.locks = false ∧ meth.name = y.name ∧ s.methodNamed? y = some m
variable {y : MethodName} {bytes : ByteArray} {maxL : Nat} {ret : Option FieldType}
theorem Kt.x (K : Kt p Z s m meth c y bytes maxL ret) : p.tables.exec = Jvm.exec := K.1
theorem Kt.z (K : Kt p Z s m meth c y bytes maxL ret) : Z.Warmed39 s.vm := K.2.1
theorem Kt.ml (K : Kt p Z s m meth c y bytes maxL ret) : c.maxLocals = maxL := K.2.2.2.1
theorem Kt.own (K : Kt p Z s m meth c y bytes maxL ret) : s.vm.findClass y.cls = some m.cls := K.2.2.2.2.1
theorem Kt.rt (K : Kt p Z s m meth c y bytes maxL ret) : meth.sig.returnType = ret := K.2.2.2.2.2.1
theorem Kt.lk (K : Kt p Z s m meth c y bytes maxL ret) : meth.locks = false := K.2.2.2.2.2.2.1
theorem Kt.nm (K : Kt p Z s m meth c y bytes maxL ret) : meth.name = y.name := K.2.2.2.2.2.2.2.1
theorem Kt.named (K : Kt p Z s m meth c y bytes maxL ret) : s.methodNamed? y = some m := K.2.2.2.2.2.2.2.2
theorem Kt.d (K : Kt p Z s m meth c y bytes maxL ret) {r : Except DecodeError (Instr × Nat)} (h : decode bytes pc = r) : decode c.code pc = r := by rw [K.2.2.1]; exact h
/-- the end of a body -/
def Done (s : State) (below : List Frame) (Q : Option Value → Heap → List Loc → Prop) (kc ks : Nat) (n : State) : Prop :=
  ∃ o, n.status = .running ∧ Ended n below o ∧ ∃ v L, o = .returned v ∧ Q v n.heap L ∧ FrameEnd s o n L kc ks
/-- a body's contract -/
def Mt (l : Launch) (Z : State) (y : MethodName) (bytes : ByteArray) (maxL : Nat) (ret : Option FieldType) (ws : List Jvm.Cond) (rm : Room) (as' : Array Value) (h0 : Heap) (Q : Option Value → Heap → List Loc → Prop) : Prop :=
  MetFree l y (head1 (Jvm.Cond.code y bytes maxL ret :: ws) rm) (fun a U => a = as' ∧ Z.Warmed39 U.vm ∧ U.heap = h0) (fun _ _ _ _ _ => True) (fun _ U o U' => ∃ v L, o = .returned v ∧ Q v U'.heap L ∧ FrameEnd U o U' L rm.cells rm.slots)
theorem g_body {ws : List Jvm.Cond} {rm : Room} {as' : Array Value} {h0 : Heap} {Q : Option Value → Heap → List Loc → Prop} (hpl : plainFor y = true)
    (H : ∀ (p : Program) (e : Env) (s : State) (m : MethodId) (below : List Frame) (meth : Method) (c : Code) (T : State), Kt p Z s m meth c y bytes maxL ret → Stand p l e rm s m as' below meth c T [] 0 0 → T.heap = h0 → Go p e below (Done s below Q rm.cells rm.slots) T (entryFrame m as' maxL)) :
    Mt l Z y bytes maxL ret ws rm as' h0 Q := by
  refine MetFree.of_bodySF hpl hisR ?_
  intro p e s m args below meth c s₁ Bd hml0 hP hK
  obtain ⟨rfl, hZ, hh⟩ := hP
  obtain ⟨n, a, o, b1, b2, b3⟩ := H p e s m below meth c s₁ ⟨Bd.exec, hZ, Bd.bytes, hml0, findClass_of_methodNamed Bd.named, Bd.returns, BodyLoose.notSynchronized Bd, (name_of_methodNamed Bd.named Bd.method).1, Bd.named⟩ (Stand.of_body Bd) (by rw [← hh, Bd.state]; rfl)
  exact ⟨n, o, a, b1, b2, b3⟩
variable {Q : Option Value → Heap → List Loc → Prop} {kc ks : Nat}
theorem g_entry (q : g = g') (h : Go p e below P T g') : Go p e below P T g := q ▸ h
/-! returns -/
theorem g_ret (X : Stand p l e R s m args below meth c T locs cells slots) (K : Kt p Z s m meth c y bytes maxL none) (hd : decode bytes pc = .ok (.return_, 1)) (hc : cells ≤ kc) (hs : slots ≤ ks) (hQ : Q none T.heap locs) : Go p e below (Done s below Q kc ks) T (mkF m pc Ls []) := by
  obtain ⟨fs, hr, hrun, hended, hW, hsame⟩ := X.leave (v := none) (fun _ => rfl) K.lk
  exact ⟨_, X.returnOut K.x K.rt (K.d hd) hr, _, hrun, hended, _, _, rfl, hQ, ⟨_, rfl⟩, hW, hsame.mono hc hs⟩
theorem g_iret (X : Stand p l e R s m args below meth c T locs cells slots) (K : Kt p Z s m meth c y bytes maxL (some .int)) {z : Int32} (hd : decode bytes pc = .ok (.ireturn, 1)) (hc : cells ≤ kc) (hs : slots ≤ ks) (hQ : Q (some (.int z)) T.heap locs) : Go p e below (Done s below Q kc ks) T (mkF m pc Ls (.int z :: S)) := by
  obtain ⟨fs, hr, hrun, hended, hW, hsame⟩ := X.leave (v := some (.int z)) (fun h => by rw [K.rt] at h; cases h) K.lk
  exact ⟨_, retOut X K.x K.rt rfl (Or.inl ⟨rfl, Or.inl rfl, z, rfl⟩) (K.d hd) hr, _, hrun, hended, _, _, rfl, hQ, ⟨_, rfl⟩, hW, hsame.mono hc hs⟩
theorem g_nret {t : FieldType} (X : Stand p l e R s m args below meth c T locs cells slots) (K : Kt p Z s m meth c y bytes maxL (some t)) (ht : t = .boolean ∨ t = .byte ∨ t = .char ∨ t = .short) {z z' : Int32} (hn : nar t z = z') (hd : decode bytes pc = .ok (.ireturn, 1)) (hc : cells ≤ kc) (hs : slots ≤ ks) (hQ : Q (some (.int z')) T.heap locs) : Go p e below (Done s below Q kc ks) T (mkF m pc Ls (.int z :: S)) := by
  subst hn
  obtain ⟨fs, hr, hrun, hended, hW, hsame⟩ := X.leave (v := some (.int (nar t z))) (fun h => by rw [K.rt] at h; cases h) K.lk
  exact ⟨_, retN X K.x K.rt ht (K.d hd) hr, _, hrun, hended, _, _, rfl, hQ, ⟨_, rfl⟩, hW, hsame.mono hc hs⟩
theorem g_lret (X : Stand p l e R s m args below meth c T locs cells slots) (K : Kt p Z s m meth c y bytes maxL (some .long)) {z : Int64} (hd : decode bytes pc = .ok (.lreturn, 1)) (hc : cells ≤ kc) (hs : slots ≤ ks) (hQ : Q (some (.long z)) T.heap locs) : Go p e below (Done s below Q kc ks) T (mkF m pc Ls (.long z :: S)) := by
  obtain ⟨fs, hr, hrun, hended, hW, hsame⟩ := X.leave (v := some (.long z)) (fun h => by rw [K.rt] at h; cases h) K.lk
  exact ⟨_, retOut X K.x K.rt rfl (Or.inr (Or.inl ⟨rfl, rfl, z, rfl⟩)) (K.d hd) hr, _, hrun, hended, _, _, rfl, hQ, ⟨_, rfl⟩, hW, hsame.mono hc hs⟩
theorem g_aret {t : FieldType} {w : Value} (X : Stand p l e R s m args below meth c T locs cells slots) (K : Kt p Z s m meth c y bytes maxL (some t)) (ht : t.isReference = true) (hw : w.isRef = true) (hn : narrow t w = w) (hd : decode bytes pc = .ok (.areturn, 1)) (hc : cells ≤ kc) (hs : slots ≤ ks) (hQ : Q (some w) T.heap locs) : Go p e below (Done s below Q kc ks) T (mkF m pc Ls (w :: S)) := by
  obtain ⟨fs, hr, hrun, hended, hW, hsame⟩ := X.leave (v := some w) (fun h => by rw [K.rt] at h; cases h) K.lk
  exact ⟨_, retOut X K.x K.rt hn (Or.inr (Or.inr (Or.inr (Or.inr ⟨rfl, ht, hw⟩)))) (K.d hd) hr, _, hrun, hended, _, _, rfl, hQ, ⟨_, rfl⟩, hW, hsame.mono hc hs⟩
/-! plain steps -/
section Plain
theorem g_iloadN (X : Stand p l e R s m args below meth c T locs cells slots) (K : Kt p Z s m meth c y bytes maxL ret) {k : Fin 4} {v : Int32} (hd : decode bytes pc = .ok (.iload_n k, 1)) (hl : Ls[k.val]? = some (.val (.int v))) (hq : pc + 1 = q) (h : Go p e below P T (mkF m q Ls (.int v :: S))) : Go p e below P T (mkF m pc Ls S) := by
  subst hq; exact Go.by_ (fun t k => XS.iloadN X.here K.x rfl (K.d hd) hl k) h
theorem g_iload (X : Stand p l e R s m args below meth c T locs cells slots) (K : Kt p Z s m meth c y bytes maxL ret) {k : Nat} {v : Int32} (hd : decode bytes pc = .ok (.iload k, 2)) (hl : Ls[k]? = some (.val (.int v))) (hq : pc + 2 = q) (h : Go p e below P T (mkF m q Ls (.int v :: S))) : Go p e below P T (mkF m pc Ls S) := by
  subst hq; exact Go.by_ (fun t k => XS.iload X.here K.x rfl (K.d hd) hl k) h
theorem g_lloadN (X : Stand p l e R s m args below meth c T locs cells slots) (K : Kt p Z s m meth c y bytes maxL ret) {k : Fin 4} {v : Int64} (hd : decode bytes pc = .ok (.lload_n k, 1)) (hl : Ls[k.val]? = some (.val (.long v))) (hq : pc + 1 = q) (h : Go p e below P T (mkF m q Ls (.long v :: S))) : Go p e below P T (mkF m pc Ls S) := by
  subst hq; exact Go.by_ (fun t k => XS.lloadN X.here K.x rfl (K.d hd) hl k) h
theorem g_lload (X : Stand p l e R s m args below meth c T locs cells slots) (K : Kt p Z s m meth c y bytes maxL ret) {k : Nat} {v : Int64} (hd : decode bytes pc = .ok (.lload k, 2)) (hl : Ls[k]? = some (.val (.long v))) (hq : pc + 2 = q) (h : Go p e below P T (mkF m q Ls (.long v :: S))) : Go p e below P T (mkF m pc Ls S) := by
  subst hq; exact Go.by_ (fun t k => XS.lload X.here K.x rfl (K.d hd) hl k) h
theorem g_aloadN (X : Stand p l e R s m args below meth c T locs cells slots) (K : Kt p Z s m meth c y bytes maxL ret) {k : Fin 4} {v : Value} (hd : decode bytes pc = .ok (.aload_n k, 1)) (hl : Ls[k.val]? = some (.val v)) (hv : v.isRef = true) (hq : pc + 1 = q) (h : Go p e below P T (mkF m q Ls (v :: S))) : Go p e below P T (mkF m pc Ls S) := by
  subst hq; exact Go.by_ (fun t k => XS.aloadN X.here K.x rfl (K.d hd) hl hv k) h
theorem g_aload (X : Stand p l e R s m args below meth c T locs cells slots) (K : Kt p Z s m meth c y bytes maxL ret) {k : Nat} {v : Value} (hd : decode bytes pc = .ok (.aload k, 2)) (hl : Ls[k]? = some (.val v)) (hv : v.isRef = true) (hq : pc + 2 = q) (h : Go p e below P T (mkF m q Ls (v :: S))) : Go p e below P T (mkF m pc Ls S) := by
  subst hq; exact Go.by_ (fun t k => XS.aload X.here K.x rfl (K.d hd) hl hv k) h
theorem g_istoreN (X : Stand p l e R s m args below meth c T locs cells slots) (K : Kt p Z s m meth c y bytes maxL ret) {k : Fin 4} {v : Int32} {L' : Array Slot} (hd : decode bytes pc = .ok (.istore_n k, 1)) (hl : storeLocals Ls k.val (.int v) = some L') (hq : pc + 1 = q) (h : Go p e below P T (mkF m q L' S)) : Go p e below P T (mkF m pc Ls (.int v :: S)) := by
  subst hq; exact Go.by_ (fun t k => XS.istoreN X.here K.x rfl (K.d hd) rfl hl k) h
theorem g_istore (X : Stand p l e R s m args below meth c T locs cells slots) (K : Kt p Z s m meth c y bytes maxL ret) {k : Nat} {v : Int32} {L' : Array Slot} (hd : decode bytes pc = .ok (.istore k, 2)) (hl : storeLocals Ls k (.int v) = some L') (hq : pc + 2 = q) (h : Go p e below P T (mkF m q L' S)) : Go p e below P T (mkF m pc Ls (.int v :: S)) := by
  subst hq; exact Go.by_ (fun t k => XS.istore X.here K.x rfl (K.d hd) rfl hl k) h
theorem g_lstoreN (X : Stand p l e R s m args below meth c T locs cells slots) (K : Kt p Z s m meth c y bytes maxL ret) {k : Fin 4} {v : Int64} {L' : Array Slot} (hd : decode bytes pc = .ok (.lstore_n k, 1)) (hl : storeLocals Ls k.val (.long v) = some L') (hq : pc + 1 = q) (h : Go p e below P T (mkF m q L' S)) : Go p e below P T (mkF m pc Ls (.long v :: S)) := by
  subst hq; exact Go.by_ (fun t k => XS.lstoreN X.here K.x rfl (K.d hd) rfl hl k) h
theorem g_lstore (X : Stand p l e R s m args below meth c T locs cells slots) (K : Kt p Z s m meth c y bytes maxL ret) {k : Nat} {v : Int64} {L' : Array Slot} (hd : decode bytes pc = .ok (.lstore k, 2)) (hl : storeLocals Ls k (.long v) = some L') (hq : pc + 2 = q) (h : Go p e below P T (mkF m q L' S)) : Go p e below P T (mkF m pc Ls (.long v :: S)) := by
  subst hq; exact Go.by_ (fun t k => XS.lstore X.here K.x rfl (K.d hd) rfl hl k) h
theorem g_astoreN (X : Stand p l e R s m args below meth c T locs cells slots) (K : Kt p Z s m meth c y bytes maxL ret) {k : Fin 4} {v : Value} {L' : Array Slot} (hd : decode bytes pc = .ok (.astore_n k, 1)) (hv : v.isRef = true) (hl : storeLocals Ls k.val v = some L') (hq : pc + 1 = q) (h : Go p e below P T (mkF m q L' S)) : Go p e below P T (mkF m pc Ls (v :: S)) := by
  subst hq; exact Go.by_ (fun t k => XS.astoreN X.here K.x rfl (K.d hd) rfl hv hl k) h
theorem g_astore (X : Stand p l e R s m args below meth c T locs cells slots) (K : Kt p Z s m meth c y bytes maxL ret) {k : Nat} {v : Value} {L' : Array Slot} (hd : decode bytes pc = .ok (.astore k, 2)) (hv : v.isRef = true) (hl : storeLocals Ls k v = some L') (hq : pc + 2 = q) (h : Go p e below P T (mkF m q L' S)) : Go p e below P T (mkF m pc Ls (v :: S)) := by
  subst hq; exact Go.by_ (fun t k => XS.astore X.here K.x rfl (K.d hd) rfl hv hl k) h
theorem g_iconst (X : Stand p l e R s m args below meth c T locs cells slots) (K : Kt p Z s m meth c y bytes maxL ret) {i : Int} {v : Int32} (hd : decode bytes pc = .ok (.iconst i, 1)) (hv : Int32.ofInt i = v) (hq : pc + 1 = q) (h : Go p e below P T (mkF m q Ls (.int v :: S))) : Go p e below P T (mkF m pc Ls S) := by
  subst hq hv; exact Go.by_ (fun t k => XS.iconst X.here K.x rfl (K.d hd) k) h
theorem g_bipush (X : Stand p l e R s m args below meth c T locs cells slots) (K : Kt p Z s m meth c y bytes maxL ret) {i : Int} {v : Int32} (hd : decode bytes pc = .ok (.bipush i, 2)) (hv : (Int8.ofInt i).toInt32 = v) (hq : pc + 2 = q) (h : Go p e below P T (mkF m q Ls (.int v :: S))) : Go p e below P T (mkF m pc Ls S) := by
  subst hq hv; exact Go.by_ (fun t k => XS.bipush X.here K.x rfl (K.d hd) k) h
theorem g_sipush (X : Stand p l e R s m args below meth c T locs cells slots) (K : Kt p Z s m meth c y bytes maxL ret) {i : Int} {v : Int32} (hd : decode bytes pc = .ok (.sipush i, 3)) (hv : (Int16.ofInt i).toInt32 = v) (hq : pc + 3 = q) (h : Go p e below P T (mkF m q Ls (.int v :: S))) : Go p e below P T (mkF m pc Ls S) := by
  subst hq hv; exact Go.by_ (fun t k => XS.sipush X.here K.x rfl (K.d hd) k) h
theorem g_null (X : Stand p l e R s m args below meth c T locs cells slots) (K : Kt p Z s m meth c y bytes maxL ret) (hd : decode bytes pc = .ok (.aconst_null, 1)) (hq : pc + 1 = q) (h : Go p e below P T (mkF m q Ls (.null :: S))) : Go p e below P T (mkF m pc Ls S) := by
  subst hq; exact Go.by_ (fun t k => XS.aconstNull X.here K.x rfl (K.d hd) k) h
theorem g_iadd (X : Stand p l e R s m args below meth c T locs cells slots) (K : Kt p Z s m meth c y bytes maxL ret) {x y z : Int32} (hd : decode bytes pc = .ok (.iadd, 1)) (hz : x + y = z) (hq : pc + 1 = q) (h : Go p e below P T (mkF m q Ls (.int z :: S))) : Go p e below P T (mkF m pc Ls (.int y :: .int x :: S)) := by
  subst hq hz; exact Go.by_ (fun t k => XS.iadd X.here K.x rfl (K.d hd) rfl k) h
theorem g_isub (X : Stand p l e R s m args below meth c T locs cells slots) (K : Kt p Z s m meth c y bytes maxL ret) {x y z : Int32} (hd : decode bytes pc = .ok (.isub, 1)) (hz : x - y = z) (hq : pc + 1 = q) (h : Go p e below P T (mkF m q Ls (.int z :: S))) : Go p e below P T (mkF m pc Ls (.int y :: .int x :: S)) := by
  subst hq hz; exact Go.by_ (fun t k => XS.isub X.here K.x rfl (K.d hd) rfl k) h
theorem g_imul (X : Stand p l e R s m args below meth c T locs cells slots) (K : Kt p Z s m meth c y bytes maxL ret) {x y z : Int32} (hd : decode bytes pc = .ok (.imul, 1)) (hz : x * y = z) (hq : pc + 1 = q) (h : Go p e below P T (mkF m q Ls (.int z :: S))) : Go p e below P T (mkF m pc Ls (.int y :: .int x :: S)) := by
  subst hq hz; exact Go.by_ (fun t k => XS.imul X.here K.x rfl (K.d hd) rfl k) h
theorem g_iand (X : Stand p l e R s m args below meth c T locs cells slots) (K : Kt p Z s m meth c y bytes maxL ret) {x y z : Int32} (hd : decode bytes pc = .ok (.iand, 1)) (hz : x &&& y = z) (hq : pc + 1 = q) (h : Go p e below P T (mkF m q Ls (.int z :: S))) : Go p e below P T (mkF m pc Ls (.int y :: .int x :: S)) := by
  subst hq hz; exact Go.by_ (fun t k => XS.iand X.here K.x rfl (K.d hd) rfl k) h
theorem g_ior (X : Stand p l e R s m args below meth c T locs cells slots) (K : Kt p Z s m meth c y bytes maxL ret) {x y z : Int32} (hd : decode bytes pc = .ok (.ior, 1)) (hz : x ||| y = z) (hq : pc + 1 = q) (h : Go p e below P T (mkF m q Ls (.int z :: S))) : Go p e below P T (mkF m pc Ls (.int y :: .int x :: S)) := by
  subst hq hz; exact Go.by_ (fun t k => XS.ior X.here K.x rfl (K.d hd) rfl k) h
theorem g_ixor (X : Stand p l e R s m args below meth c T locs cells slots) (K : Kt p Z s m meth c y bytes maxL ret) {x y z : Int32} (hd : decode bytes pc = .ok (.ixor, 1)) (hz : x ^^^ y = z) (hq : pc + 1 = q) (h : Go p e below P T (mkF m q Ls (.int z :: S))) : Go p e below P T (mkF m pc Ls (.int y :: .int x :: S)) := by
  subst hq hz; exact Go.by_ (fun t k => XS.ixor X.here K.x rfl (K.d hd) rfl k) h
theorem g_ishl (X : Stand p l e R s m args below meth c T locs cells slots) (K : Kt p Z s m meth c y bytes maxL ret) {x y z : Int32} (hd : decode bytes pc = .ok (.ishl, 1)) (hz : x <<< (y &&& 31) = z) (hq : pc + 1 = q) (h : Go p e below P T (mkF m q Ls (.int z :: S))) : Go p e below P T (mkF m pc Ls (.int y :: .int x :: S)) := by
  subst hq hz; exact Go.by_ (fun t k => XS.ishl X.here K.x rfl (K.d hd) rfl k) h
theorem g_ishr (X : Stand p l e R s m args below meth c T locs cells slots) (K : Kt p Z s m meth c y bytes maxL ret) {x y z : Int32} (hd : decode bytes pc = .ok (.ishr, 1)) (hz : x >>> (y &&& 31) = z) (hq : pc + 1 = q) (h : Go p e below P T (mkF m q Ls (.int z :: S))) : Go p e below P T (mkF m pc Ls (.int y :: .int x :: S)) := by
  subst hq hz; exact Go.by_ (fun t k => XS.ishr X.here K.x rfl (K.d hd) rfl k) h
theorem g_iushr (X : Stand p l e R s m args below meth c T locs cells slots) (K : Kt p Z s m meth c y bytes maxL ret) {x y z : Int32} (hd : decode bytes pc = .ok (.iushr, 1)) (hz : (x.toUInt32 >>> (y &&& 31).toUInt32).toInt32 = z) (hq : pc + 1 = q) (h : Go p e below P T (mkF m q Ls (.int z :: S))) : Go p e below P T (mkF m pc Ls (.int y :: .int x :: S)) := by
  subst hq hz; exact Go.by_ (fun t k => XS.iushr X.here K.x rfl (K.d hd) rfl k) h
theorem g_irem (X : Stand p l e R s m args below meth c T locs cells slots) (K : Kt p Z s m meth c y bytes maxL ret) {x y z : Int32} (hd : decode bytes pc = .ok (.irem, 1)) (hy : y ≠ 0) (hz : x % y = z) (hq : pc + 1 = q) (h : Go p e below P T (mkF m q Ls (.int z :: S))) : Go p e below P T (mkF m pc Ls (.int y :: .int x :: S)) := by
  subst hq hz; exact Go.by_ (fun t k => iremM X K.x rfl (K.d hd) rfl hy k) h
theorem g_idiv (X : Stand p l e R s m args below meth c T locs cells slots) (K : Kt p Z s m meth c y bytes maxL ret) {x y z : Int32} (hd : decode bytes pc = .ok (.idiv, 1)) (hy : y ≠ 0) (hz : x / y = z) (hq : pc + 1 = q) (h : Go p e below P T (mkF m q Ls (.int z :: S))) : Go p e below P T (mkF m pc Ls (.int y :: .int x :: S)) := by
  subst hq hz; exact Go.by_ (fun t k => XS.idiv X.here K.x rfl (K.d hd) rfl hy k) h
theorem g_ineg (X : Stand p l e R s m args below meth c T locs cells slots) (K : Kt p Z s m meth c y bytes maxL ret) {x z : Int32} (hd : decode bytes pc = .ok (.ineg, 1)) (hz : -x = z) (hq : pc + 1 = q) (h : Go p e below P T (mkF m q Ls (.int z :: S))) : Go p e below P T (mkF m pc Ls (.int x :: S)) := by
  subst hq hz; exact Go.by_ (fun t k => XS.ineg X.here K.x rfl (K.d hd) rfl k) h
theorem g_i2b (X : Stand p l e R s m args below meth c T locs cells slots) (K : Kt p Z s m meth c y bytes maxL ret) {x z : Int32} (hd : decode bytes pc = .ok (.i2b, 1)) (hz : x.toInt8.toInt32 = z) (hq : pc + 1 = q) (h : Go p e below P T (mkF m q Ls (.int z :: S))) : Go p e below P T (mkF m pc Ls (.int x :: S)) := by
  subst hq hz; exact Go.by_ (fun t k => XS.i2b X.here K.x rfl (K.d hd) rfl k) h
theorem g_i2c (X : Stand p l e R s m args below meth c T locs cells slots) (K : Kt p Z s m meth c y bytes maxL ret) {x z : Int32} (hd : decode bytes pc = .ok (.i2c, 1)) (hz : x.toUInt32.toUInt16.toUInt32.toInt32 = z) (hq : pc + 1 = q) (h : Go p e below P T (mkF m q Ls (.int z :: S))) : Go p e below P T (mkF m pc Ls (.int x :: S)) := by
  subst hq hz; exact Go.by_ (fun t k => XS.i2c X.here K.x rfl (K.d hd) rfl k) h
theorem g_i2l (X : Stand p l e R s m args below meth c T locs cells slots) (K : Kt p Z s m meth c y bytes maxL ret) {x : Int32} {z : Int64} (hd : decode bytes pc = .ok (.i2l, 1)) (hz : x.toInt64 = z) (hq : pc + 1 = q) (h : Go p e below P T (mkF m q Ls (.long z :: S))) : Go p e below P T (mkF m pc Ls (.int x :: S)) := by
  subst hq hz; exact Go.by_ (fun t k => XS.i2l X.here K.x rfl (K.d hd) rfl k) h
theorem g_lconst (X : Stand p l e R s m args below meth c T locs cells slots) (K : Kt p Z s m meth c y bytes maxL ret) {k : Fin 2} {v : Int64} (hd : decode bytes pc = .ok (.lconst k, 1)) (hv : Int64.ofInt k.val = v) (hq : pc + 1 = q) (h : Go p e below P T (mkF m q Ls (.long v :: S))) : Go p e below P T (mkF m pc Ls S) := by
  subst hq hv; exact Go.by_ (fun t k => XS.lconst X.here K.x rfl (K.d hd) k) h
theorem g_lsub (X : Stand p l e R s m args below meth c T locs cells slots) (K : Kt p Z s m meth c y bytes maxL ret) {x y z : Int64} (hd : decode bytes pc = .ok (.lsub, 1)) (hz : x - y = z) (hq : pc + 1 = q) (h : Go p e below P T (mkF m q Ls (.long z :: S))) : Go p e below P T (mkF m pc Ls (.long y :: .long x :: S)) := by
  subst hq hz; exact Go.by_ (fun t k => XS.lsub X.here K.x rfl (K.d hd) rfl k) h
theorem g_lshl (X : Stand p l e R s m args below meth c T locs cells slots) (K : Kt p Z s m meth c y bytes maxL ret) {x z : Int64} {y : Int32} (hd : decode bytes pc = .ok (.lshl, 1)) (hz : x <<< (y &&& 0x3f).toInt64 = z) (hq : pc + 1 = q) (h : Go p e below P T (mkF m q Ls (.long z :: S))) : Go p e below P T (mkF m pc Ls (.int y :: .long x :: S)) := by
  subst hq hz; exact Go.by_ (fun t k => XS.lshl X.here K.x rfl (K.d hd) rfl k) h
theorem g_lcmp (X : Stand p l e R s m args below meth c T locs cells slots) (K : Kt p Z s m meth c y bytes maxL ret) {x y : Int64} {z : Int32} (hd : decode bytes pc = .ok (.lcmp, 1)) (hz : lcmpW x y = z) (hq : pc + 1 = q) (h : Go p e below P T (mkF m q Ls (.int z :: S))) : Go p e below P T (mkF m pc Ls (.long y :: .long x :: S)) := by
  subst hq hz; exact Go.by_ (fun t k => XS.lcmp X.here K.x rfl (K.d hd) rfl k) h
theorem g_iinc (X : Stand p l e R s m args below meth c T locs cells slots) (K : Kt p Z s m meth c y bytes maxL ret) {k : Nat} {cst : Int} {x z : Int32} {L' : Array Slot} (hd : decode bytes pc = .ok (.iinc k cst, 3)) (hl : Ls[k]? = some (.val (.int x))) (hz : x + Int32.ofInt cst = z) (hl' : storeLocals Ls k (.int z) = some L') (hq : pc + 3 = q) (h : Go p e below P T (mkF m q L' S)) : Go p e below P T (mkF m pc Ls S) := by
  subst hq hz; exact Go.by_ (fun t k => XS.iinc X.here K.x rfl (K.d hd) hl hl' k) h
theorem g_dup (X : Stand p l e R s m args below meth c T locs cells slots) (K : Kt p Z s m meth c y bytes maxL ret) {x : Value} (hd : decode bytes pc = .ok (.dup, 1)) (hc : x.category = 1) (hq : pc + 1 = q) (h : Go p e below P T (mkF m q Ls (x :: x :: S))) : Go p e below P T (mkF m pc Ls (x :: S)) := by
  subst hq; exact Go.by_ (fun t k => XS.dup X.here K.x rfl (K.d hd) rfl hc k) h
theorem g_dupX1 (X : Stand p l e R s m args below meth c T locs cells slots) (K : Kt p Z s m meth c y bytes maxL ret) {x y : Value} (hd : decode bytes pc = .ok (.dup_x1, 1)) (hc : x.category = 1) (hc' : y.category = 1) (hq : pc + 1 = q) (h : Go p e below P T (mkF m q Ls (x :: y :: x :: S))) : Go p e below P T (mkF m pc Ls (x :: y :: S)) := by
  subst hq; exact Go.by_ (fun t k => XS.dupX1 X.here K.x rfl (K.d hd) rfl hc hc' k) h
theorem g_dup2 (X : Stand p l e R s m args below meth c T locs cells slots) (K : Kt p Z s m meth c y bytes maxL ret) {x y : Value} (hd : decode bytes pc = .ok (.dup2, 1)) (hc : x.category = 1) (hc' : y.category = 1) (hq : pc + 1 = q) (h : Go p e below P T (mkF m q Ls (x :: y :: x :: y :: S))) : Go p e below P T (mkF m pc Ls (x :: y :: S)) := by
  subst hq; exact Go.by_ (fun t k => XT.dup2 X.here K.x rfl (K.d hd) rfl hc hc' k) h
theorem g_pop (X : Stand p l e R s m args below meth c T locs cells slots) (K : Kt p Z s m meth c y bytes maxL ret) {x : Value} (hd : decode bytes pc = .ok (.pop, 1)) (hc : x.category = 1) (hq : pc + 1 = q) (h : Go p e below P T (mkF m q Ls S)) : Go p e below P T (mkF m pc Ls (x :: S)) := by
  subst hq; exact Go.by_ (fun t k => XS.pop X.here K.x rfl (K.d hd) rfl hc k) h
theorem g_goto (X : Stand p l e R s m args below meth c T locs cells slots) (K : Kt p Z s m meth c y bytes maxL ret) {o : Int} (hd : decode bytes pc = .ok (.goto o, 3)) (ho : 0 ≤ (pc : Int) + o) (hq : ((pc : Int) + o).toNat = q) (h : Go p e below P T (mkF m q Ls S)) : Go p e below P T (mkF m pc Ls S) :=
  Go.by_ (fun t k => XS.goto X.here K.x rfl rfl (K.d hd) ho hq k) h
theorem g_ifY (X : Stand p l e R s m args below meth c T locs cells slots) (K : Kt p Z s m meth c y bytes maxL ret) {cd : ClassFile.Cond} {x : Int32} {o : Int} (hd : decode bytes pc = .ok (.ifCond cd o, 3)) (hc : if_icmp.holds cd x 0 = true) (ho : 0 ≤ (pc : Int) + o) (hq : ((pc : Int) + o).toNat = q) (h : Go p e below P T (mkF m q Ls S)) : Go p e below P T (mkF m pc Ls (.int x :: S)) :=
  Go.by_ (fun t k => XS.ifYes X.here K.x rfl rfl (K.d hd) rfl ((if0 _ _).trans hc) ho hq k) h
theorem g_ifN (X : Stand p l e R s m args below meth c T locs cells slots) (K : Kt p Z s m meth c y bytes maxL ret) {cd : ClassFile.Cond} {x : Int32} {o : Int} (hd : decode bytes pc = .ok (.ifCond cd o, 3)) (hc : if_icmp.holds cd x 0 = false) (hq : pc + 3 = q) (h : Go p e below P T (mkF m q Ls S)) : Go p e below P T (mkF m pc Ls (.int x :: S)) := by
  subst hq; exact Go.by_ (fun t k => XS.ifNo X.here K.x rfl (K.d hd) rfl ((if0 _ _).trans hc) k) h
theorem g_icY (X : Stand p l e R s m args below meth c T locs cells slots) (K : Kt p Z s m meth c y bytes maxL ret) {cd : ClassFile.Cond} {x y : Int32} {o : Int} (hd : decode bytes pc = .ok (.if_icmp cd o, 3)) (hc : if_icmp.holds cd x y = true) (ho : 0 ≤ (pc : Int) + o) (hq : ((pc : Int) + o).toNat = q) (h : Go p e below P T (mkF m q Ls S)) : Go p e below P T (mkF m pc Ls (.int y :: .int x :: S)) :=
  Go.by_ (fun t k => XS.icmpYes X.here K.x rfl rfl (K.d hd) rfl hc ho hq k) h
theorem g_icN (X : Stand p l e R s m args below meth c T locs cells slots) (K : Kt p Z s m meth c y bytes maxL ret) {cd : ClassFile.Cond} {x y : Int32} {o : Int} (hd : decode bytes pc = .ok (.if_icmp cd o, 3)) (hc : if_icmp.holds cd x y = false) (hq : pc + 3 = q) (h : Go p e below P T (mkF m q Ls S)) : Go p e below P T (mkF m pc Ls (.int y :: .int x :: S)) := by
  subst hq; exact Go.by_ (fun t k => XS.icmpNo X.here K.x rfl (K.d hd) rfl hc k) h
theorem g_ac (X : Stand p l e R s m args below meth c T locs cells slots) (K : Kt p Z s m meth c y bytes maxL ret) {cd : ACond} {x y : Value} {o : Int} {same : Bool} (hd : decode bytes pc = .ok (.if_acmp cd o, 3)) (h1 : x.isRef = true) (h2 : y.isRef = true) (hs : decide (x = y) = same) (ho : 0 ≤ (pc : Int) + o) (hq : q = if acV cd same = true then ((pc : Int) + o).toNat else pc + 3) (h : Go p e below P T (mkF m q Ls S)) : Go p e below P T (mkF m pc Ls (y :: x :: S)) :=
  Go.by_ (fun t k => acmp X K.x rfl h1 h2 rfl (K.d hd) rfl hs ho hq k) h
theorem g_nullY (X : Stand p l e R s m args below meth c T locs cells slots) (K : Kt p Z s m meth c y bytes maxL ret) {o : Int} (hd : decode bytes pc = .ok (.ifnull o, 3)) (ho : 0 ≤ (pc : Int) + o) (hq : ((pc : Int) + o).toNat = q) (h : Go p e below P T (mkF m q Ls S)) : Go p e below P T (mkF m pc Ls (.null :: S)) :=
  Go.by_ (fun t k => XS.ifnullYes X.here K.x rfl rfl (K.d hd) rfl ho hq k) h
theorem g_nullN (X : Stand p l e R s m args below meth c T locs cells slots) (K : Kt p Z s m meth c y bytes maxL ret) {o : Int} {b : Addr} (hd : decode bytes pc = .ok (.ifnull o, 3)) (hq : pc + 3 = q) (h : Go p e below P T (mkF m q Ls S)) : Go p e below P T (mkF m pc Ls (.ref b :: S)) := by
  subst hq; exact Go.by_ (fun t k => XS.ifnullNo X.here K.x rfl (K.d hd) rfl k) h
theorem g_nonnullY (X : Stand p l e R s m args below meth c T locs cells slots) (K : Kt p Z s m meth c y bytes maxL ret) {o : Int} {b : Addr} (hd : decode bytes pc = .ok (.ifnonnull o, 3)) (ho : 0 ≤ (pc : Int) + o) (hq : ((pc : Int) + o).toNat = q) (h : Go p e below P T (mkF m q Ls S)) : Go p e below P T (mkF m pc Ls (.ref b :: S)) :=
  Go.by_ (fun t k => XS.ifnonnullYes X.here K.x rfl rfl (K.d hd) rfl ho hq k) h
theorem g_nonnullN (X : Stand p l e R s m args below meth c T locs cells slots) (K : Kt p Z s m meth c y bytes maxL ret) {o : Int} (hd : decode bytes pc = .ok (.ifnonnull o, 3)) (hq : pc + 3 = q) (h : Go p e below P T (mkF m q Ls S)) : Go p e below P T (mkF m pc Ls (.null :: S)) := by
  subst hq; exact Go.by_ (fun t k => XS.ifnonnullNo X.here K.x rfl (K.d hd) rfl k) h
theorem g_ldc (X : Stand p l e R s m args below meth c T locs cells slots) (K : Kt p Z s m meth c y bytes maxL ret) {index : Nat} {v : Int32} (w : (Jvm.Cond.constant y.cls index v).before a0 Z = true) (hd : decode bytes pc = .ok (.ldc index, 2)) (hq : pc + 2 = q) (h : Go p e below P T (mkF m q Ls (.int v :: S))) : Go p e below P T (mkF m pc Ls S) := by
  subst hq; exact Go.by_ (fun t k => X.ldcInt K.x K.own (mvT K.z w) (g := mkF m pc Ls S) rfl (K.d hd) _ k) h
theorem g_ldc2 (X : Stand p l e R s m args below meth c T locs cells slots) (K : Kt p Z s m meth c y bytes maxL ret) {index : Nat} {v : Int64} (w : (Jvm.Cond.constantLong y.cls index v).before a0 Z = true) (hd : decode bytes pc = .ok (.ldc2_w index, 3)) (hq : pc + 3 = q) (h : Go p e below P T (mkF m q Ls (.long v :: S))) : Go p e below P T (mkF m pc Ls S) := by
  subst hq; exact Go.by_ (fun t k => X.ldc2Long K.x K.own (mvT K.z w) (g := mkF m pc Ls S) rfl (K.d hd) _ k) h
theorem g_tswIn (X : Stand p l e R s m args below meth c T locs cells slots) (K : Kt p Z s m meth c y bytes maxL ret) {dflt low high : Int} {offs : Array Int} {len : Nat} {o : Int} {i : Int32} (hd : decode bytes pc = .ok (.tableswitch dflt low high offs, len)) (hin : ¬ (i.toInt < low ∨ i.toInt > high)) (hoff : offs[(i.toInt - low).toNat]? = some o) (ho : 0 ≤ (pc : Int) + o) (hq : ((pc : Int) + o).toNat = q) (h : Go p e below P T (mkF m q Ls S)) : Go p e below P T (mkF m pc Ls (.int i :: S)) :=
  Go.by_ (fun t k => XS.tswIn X.here K.x rfl rfl (K.d hd) rfl hin hoff ho hq k) h
theorem g_tswOut (X : Stand p l e R s m args below meth c T locs cells slots) (K : Kt p Z s m meth c y bytes maxL ret) {dflt low high : Int} {offs : Array Int} {len : Nat} {i : Int32} (hd : decode bytes pc = .ok (.tableswitch dflt low high offs, len)) (hout : i.toInt < low ∨ i.toInt > high) (ho : 0 ≤ (pc : Int) + dflt) (hq : ((pc : Int) + dflt).toNat = q) (h : Go p e below P T (mkF m q Ls S)) : Go p e below P T (mkF m pc Ls (.int i :: S)) :=
  Go.by_ (fun t k => XS.tswOut X.here K.x rfl rfl (K.d hd) rfl hout ho hq k) h
theorem g_dupX2 (X : Stand p l e R s m args below meth c T locs cells slots) (K : Kt p Z s m meth c y bytes maxL ret) {x y1 z : Value} (hd : decode bytes pc = .ok (.dup_x2, 1)) (hc : x.category = 1) (hc1 : y1.category = 1) (hc2 : z.category = 1) (hq : pc + 1 = q) (h : Go p e below P T (mkF m q Ls (x :: y1 :: z :: x :: S))) : Go p e below P T (mkF m pc Ls (x :: y1 :: z :: S)) := by
  subst hq
  refine Go.by_ (fun t k => ?_) h
  have hx := K.x
  have hd' := K.d hd
  jvm_step X.here [X.here.top, hx, hd', hc, hc1, hc2]
  exact k
end Plain
/-! steps that look at the heap -/
section Heap
theorem g_gets {index : Nat} {C n d : String} {v : Value} (X : Stand p l e R s m args below meth c T locs cells slots) (K : Kt p Z s m meth c y bytes maxL ret) (w : (Jvm.Cond.fieldLink y.cls index C n d).before a0 Z = true) (eT : T.heap = h) (F : Sta Z h C n d v) (hd : decode bytes pc = .ok (.getstatic index, 3)) (hq : pc + 3 = q)
    (k : ∀ T', Stand p l e R s m args below meth c T' locs cells slots → T'.heap = h → Go p e below P T' (mkF m q Ls (v :: S))) : Go p e below P T (mkF m pc Ls S) := by
  subst hq
  obtain ⟨T1, X1, e1, st⟩ := getS2 X K.x K.z (host := "") K.own (Or.inl w) Via.refl eT F (g := mkF m pc Ls S) rfl (K.d hd)
  exact Go.by_ st (k T1 X1 e1)
theorem g_getf {index : Nat} {C O n d : String} {a : Addr} {v : Value} (X : Stand p l e R s m args below meth c T locs cells slots) (K : Kt p Z s m meth c y bytes maxL ret) (w : (Jvm.Cond.fieldLink y.cls index C n d).before a0 Z = true) (via : Via Z C O n d) (eT : T.heap = h) (F : Fld Z h a O n d v) (hd : decode bytes pc = .ok (.getfield index, 3)) (hq : pc + 3 = q)
    (k : ∀ T', Stand p l e R s m args below meth c T' locs cells slots → T'.heap = h → Go p e below P T' (mkF m q Ls (v :: S))) : Go p e below P T (mkF m pc Ls (.ref a :: S)) := by
  subst hq
  obtain ⟨T1, X1, e1, st⟩ := getF X K.x K.z K.own (host := "") (Or.inl w) via eT F (g := mkF m pc Ls (.ref a :: S)) rfl rfl (K.d hd)
  exact Go.by_ st (k T1 X1 e1)
theorem g_putf {index kk : Nat} {C O n d Cl : String} {a : Addr} {v old : Value} {ty : FieldType} (X : Stand p l e R s m args below meth c T locs cells slots) (K : Kt p Z s m meth c y bytes maxL ret) (w : (Jvm.Cond.fieldLink y.cls index C n d).before a0 Z = true) (via : Via Z C O n d) (eT : T.heap = h) (F : Fld Z h a O n d old) (E : Exa Z h a Cl) (L : (Jvm.Cond.lays Cl O n d).before a0 Z = true ∨ ((Jvm.Cond.laysFinal Cl O n d).before a0 Z = true ∧ y.cls = O ∧ y.name = "<init>")) (wi : (Jvm.Cond.instantiable Cl kk).before a0 Z = true)
    (hty : parseFieldDescriptor d = some ty) (hn : narrow ty v = v) (hf : fits ty v = true) (hd : decode bytes pc = .ok (.putfield index, 3)) (hq : pc + 3 = q)
    (k : ∀ T' h', Stand p l e R s m args below meth c T' (locs ++ [⟨a, Jvm.RoadKit.slotOf Z O n d⟩]) cells slots → T'.heap = h' → Wr h h' a (Jvm.RoadKit.slotOf Z O n d) v → Fld Z h' a O n d v → Go p e below P T' (mkF m q Ls S)) : Go p e below P T (mkF m pc Ls (v :: .ref a :: S)) := by
  subst hq
  obtain ⟨T1, h1, X1, e1, W1, st⟩ := putF X K.x K.z K.own (host := "") (Or.inl w) via eT F E (L.imp id fun q => ⟨q.1, q.2.1, K.nm.trans q.2.2⟩) wi hty hn hf (g := mkF m pc Ls (v :: .ref a :: S)) rfl rfl (K.d hd)
  exact Go.by_ st (k T1 h1 X1 e1 W1 (F.same W1))
theorem g_new {index n : Nat} {C : String} (X : Stand p l e R s m args below meth c T locs cells slots) (K : Kt p Z s m meth c y bytes maxL ret) (w : (Jvm.Cond.classLink y.cls index C).before a0 Z = true) (wi : (Jvm.Cond.instantiable C n).before a0 Z = true) (wz : (Jvm.Cond.initialized C).before a0 Z = true) (eT : T.heap = h) (hd : decode bytes pc = .ok (.new index, 3)) (hc : cells + 1 ≤ R.cells) (hl : slots + n ≤ R.slots) (hq : pc + 3 = q)
    (k : ∀ (T' : State) (h' : Heap) (a : Addr), Stand p l e R s m args below meth c T' locs (cells + 1) (slots + n) → T'.heap = h' → Ext h h' → h.size = a → Exa Z h' a C → (∀ {O nm d : String} {ty : FieldType}, Laid Z a0 C O nm d → parseFieldDescriptor d = some ty → Fld Z h' a O nm d (defaultValue ty)) → Go p e below P T' (mkF m q Ls (.ref a :: S))) : Go p e below P T (mkF m pc Ls S) := by
  subst hq
  obtain ⟨T1, h1, X1, e1, E1, A1, D1, -, st⟩ := newO X K.x K.z K.own w wi wz eT (g := mkF m pc Ls S) rfl (K.d hd) hc hl
  exact Go.by_ st (k T1 h1 _ X1 e1 E1 rfl A1 D1)
theorem g_init {index : Nat} {a : Addr} {W : Nat} (X : Stand p l e R s m args below meth c T locs cells slots) (K : Kt p Z s m meth c y bytes maxL ret) (w1 : (Jvm.Cond.methodLink y.cls index Lib.objectInit).before a0 Z = true) (w2 : (Jvm.Cond.instanceMethod Lib.objectInit).before a0 Z = true) (w3 : (Jvm.Cond.code Lib.objectInit ⟨#[0xb1]⟩ 1 none).before a0 Z = true) (eT : T.heap = h) (hsz : Ls.size = maxL) (hd : decode bytes pc = .ok (.invokespecial index, 3)) (hf : 1 ≤ R.frames) (hW : (S.map fun v => v.category).sum ≤ W) (hl : W + 12 ≤ R.locals) (hq : pc + 3 = q)
    (k : ∀ T', Stand p l e R s m args below meth c T' locs cells slots → T'.heap = h → Go p e below P T' (mkF m q Ls S)) : Go p e below P T (mkF m pc Ls (.ref a :: S)) := by
  subst hq
  obtain ⟨T1, X1, e1, st⟩ := initO X K.x K.z K.own w1 w2 w3 eT (g := mkF m pc Ls (.ref a :: S)) rfl (by rw [K.ml]; exact hsz) rfl (K.d hd) hf (W := W) (by show 2 * 0 + _ ≤ _; omega) hl
  exact Go.by_ st (k T1 X1 e1)
theorem g_castN {index : Nat} (X : Stand p l e R s m args below meth c T locs cells slots) (K : Kt p Z s m meth c y bytes maxL ret) (hd : decode bytes pc = .ok (.checkcast index, 3)) (hq : pc + 3 = q) (k : Go p e below P T (mkF m q Ls (.null :: S))) : Go p e below P T (mkF m pc Ls (.null :: S)) := by
  subst hq
  exact Go.by_ (fun t k => X.checkcastNull K.x (g := mkF m pc Ls (.null :: S)) rfl rfl (K.d hd) _ k) k
theorem g_cast {index : Nat} {C : String} {a : Addr} (X : Stand p l e R s m args below meth c T locs cells slots) (K : Kt p Z s m meth c y bytes maxL ret) (w : (Jvm.Cond.classLink y.cls index C).before a0 Z = true) (eT : T.heap = h) (F : Ins Z h a C true) (hd : decode bytes pc = .ok (.checkcast index, 3)) (hq : pc + 3 = q)
    (k : ∀ T', Stand p l e R s m args below meth c T' locs cells slots → T'.heap = h → Go p e below P T' (mkF m q Ls (.ref a :: S))) : Go p e below P T (mkF m pc Ls (.ref a :: S)) := by
  subst hq
  obtain ⟨T1, X1, e1, st⟩ := castY X K.x K.z K.own w eT F (g := mkF m pc Ls (.ref a :: S)) rfl rfl (K.d hd)
  exact Go.by_ st (k T1 X1 e1)
theorem g_lambda {index : Nat} {σ : Lambda.Shape} {W : Nat} (X : Stand p l e R s m args below meth c T locs cells slots) (K : Kt p Z s m meth c y bytes maxL ret) (w : (Jvm.Cond.lambdaSite y pc index σ).before a0 Z = true) (hσ : σ.captured = []) (hsz : Ls.size = maxL) (hd : decode bytes pc = .ok (.invokedynamic index, 5)) (hW : (S.map fun v => v.category).sum ≤ W) (hl : W + 3072 ≤ R.locals) (hq : pc + 5 = q)
    (k : ∀ a : Addr, Go p e below P T (mkF m q Ls (.ref a :: S))) : Go p e below P T (mkF m pc Ls S) := by
  subst hq
  obtain ⟨cK, one, hat⟩ := Cond.lambdaSite_spec w
  obtain ⟨m', kS, cfS, i0, p0, lk, hm', hkS, hcfS, -, -, hfind, hmade, hcan, hlk⟩ := State.lambdaAt?_spec hat
  have hn : Z.methodNamed? y = some m := by
    have q := State.methodNamed?_setVm (s := Z) K.z.alike y
    have q2 : (Z.setVm s.vm).methodNamed? y = s.methodNamed? y := rfl
    rw [← q, q2]; exact K.named
  cases hn.symm.trans hm'
  rcases hlk with ⟨a, cell, rfl, -⟩ | ⟨-, -, h⟩
  · obtain ⟨k', hk', he⟩ := K.z.alike.2.2 _ _ hkS
    refine Go.by_ (fun t kk => X.lambdaConstant K.x (g := mkF m pc Ls S) rfl (by rw [K.ml]; exact hsz) (K.d hd) hk' (by rw [he]; exact hfind) (by rw [X.admits.platform]; show 2 * 0 + (S.map fun v => v.category).sum + 3072 ≤ _; omega) kk) (k a)
  · exact absurd hσ h
/-! arrays -/
theorem g_len {a : Addr} {kA : ClassId} {ty : FieldType} {n : Int32} {vs : List Value} {dv : Value} (X : Stand p l e R s m args below meth c T locs cells slots) (K : Kt p Z s m meth c y bytes maxL ret) (eT : T.heap = h) (A : Arv Z h a kA ty n vs dv) (hd : decode bytes pc = .ok (.arraylength, 1)) (hq : pc + 1 = q) (k : Go p e below P T (mkF m q Ls (.int n :: S))) : Go p e below P T (mkF m pc Ls (.ref a :: S)) := by
  subst hq
  obtain ⟨cl, Ar, -, Sz, Nn, -, -⟩ := A
  refine Go.by_ (fun t k => X.arraylength K.x (by rw [eT]; exact Ar.1) (State.isArrayOf_alike K.z.alike Ar.2.1) (g := mkF m pc Ls (.ref a :: S)) rfl rfl (K.d hd) _ k) ?_
  rw [len_of Sz Nn]; exact k
theorem arv_at {a : Addr} {kA : ClassId} {ty : FieldType} {n j : Int32} {vs : List Value} {dv v : Value} (A : Arv Z h a kA ty n vs dv) (hj : ¬ j < 0 ∧ j < n) (hv : vs.getD j.toNatClampNeg dv = v) :
    ∃ cl, Arr Z h a cl ty ∧ ¬ (j < 0 ∨ cl.slots.size ≤ j.toNatClampNeg) ∧ cl.slots[j.toNatClampNeg]? = some v := by
  obtain ⟨cl, Ar, -, Sz, Nn, H, -⟩ := A
  have hin := inb_of Sz hj
  exact ⟨cl, Ar, hin, H.at hin hv⟩
theorem g_iald {a : Addr} {kA : ClassId} {n j : Int32} {vs : List Value} {dv v : Value} (X : Stand p l e R s m args below meth c T locs cells slots) (K : Kt p Z s m meth c y bytes maxL ret) (eT : T.heap = h) (A : Arv Z h a kA .int n vs dv) (hj : ¬ j < 0 ∧ j < n) (hv : vs.getD j.toNatClampNeg dv = v) (hd : decode bytes pc = .ok (.iaload, 1)) (hq : pc + 1 = q) (k : Go p e below P T (mkF m q Ls (v :: S))) : Go p e below P T (mkF m pc Ls (.int j :: .ref a :: S)) := by
  subst hq
  obtain ⟨cl, Ar, hin, hat⟩ := arv_at A hj hv
  exact Go.by_ (fun t k => X.iaload K.x (by rw [eT]; exact Ar.1) (State.isArrayOf_alike K.z.alike Ar.2.1) Ar.2.2 hin hat (g := mkF m pc Ls (.int j :: .ref a :: S)) rfl rfl (K.d hd) _ k) k
theorem g_bald {a : Addr} {kA : ClassId} {n j : Int32} {vs : List Value} {dv v : Value} (X : Stand p l e R s m args below meth c T locs cells slots) (K : Kt p Z s m meth c y bytes maxL ret) (eT : T.heap = h) (A : Arv Z h a kA .byte n vs dv) (hj : ¬ j < 0 ∧ j < n) (hv : vs.getD j.toNatClampNeg dv = v) (hd : decode bytes pc = .ok (.baload, 1)) (hq : pc + 1 = q) (k : Go p e below P T (mkF m q Ls (v :: S))) : Go p e below P T (mkF m pc Ls (.int j :: .ref a :: S)) := by
  subst hq
  obtain ⟨cl, Ar, hin, hat⟩ := arv_at A hj hv
  exact Go.by_ (fun t k => X.baloadBytes K.x (by rw [eT]; exact Ar.1) (State.isArrayOf_alike K.z.alike Ar.2.1) Ar.2.2 hin hat (g := mkF m pc Ls (.int j :: .ref a :: S)) rfl rfl (K.d hd) _ k) k
theorem g_zald {a : Addr} {kA : ClassId} {n j : Int32} {vs : List Value} {dv v : Value} (X : Stand p l e R s m args below meth c T locs cells slots) (K : Kt p Z s m meth c y bytes maxL ret) (eT : T.heap = h) (A : Arv Z h a kA .boolean n vs dv) (hj : ¬ j < 0 ∧ j < n) (hv : vs.getD j.toNatClampNeg dv = v) (hd : decode bytes pc = .ok (.baload, 1)) (hq : pc + 1 = q) (k : Go p e below P T (mkF m q Ls (v :: S))) : Go p e below P T (mkF m pc Ls (.int j :: .ref a :: S)) := by
  subst hq
  obtain ⟨cl, Ar, hin, hat⟩ := arv_at A hj hv
  exact Go.by_ (fun t k => X.baloadBooleans K.x (by rw [eT]; exact Ar.1) (State.isArrayOf_alike K.z.alike Ar.2.1) Ar.2.2 hin hat (g := mkF m pc Ls (.int j :: .ref a :: S)) rfl rfl (K.d hd) _ k) k
theorem g_aald {a : Addr} {kA : ClassId} {ty : FieldType} {n j : Int32} {vs : List Value} {dv v : Value} (X : Stand p l e R s m args below meth c T locs cells slots) (K : Kt p Z s m meth c y bytes maxL ret) (eT : T.heap = h) (A : Arv Z h a kA ty n vs dv) (hty : ty.isReference = true) (hj : ¬ j < 0 ∧ j < n) (hv : vs.getD j.toNatClampNeg dv = v) (hd : decode bytes pc = .ok (.aaload, 1)) (hq : pc + 1 = q) (k : Go p e below P T (mkF m q Ls (v :: S))) : Go p e below P T (mkF m pc Ls (.int j :: .ref a :: S)) := by
  subst hq
  obtain ⟨cl, Ar, hin, hat⟩ := arv_at A hj hv
  exact Go.by_ (fun t k => X.aaload K.x (by rw [eT]; exact Ar.1) (State.isArrayOf_alike K.z.alike Ar.2.1) hty Ar.2.2 hin hat (g := mkF m pc Ls (.int j :: .ref a :: S)) rfl rfl (K.d hd) _ k) k
theorem g_newp {aty : ArrayType} {n : Int32} {cap : Nat} {ty : FieldType} {vs : List Value} (X : Stand p l e R s m args below meth c T locs cells slots) (K : Kt p Z s m meth c y bytes maxL ret) (w : (Jvm.Cond.arrayClass ty).before a0 Z = true) (hty : newarray.typeOf aty = ty) (eT : T.heap = h) (hd : decode bytes pc = .ok (.newarray aty, 2)) (hn : ¬ n < 0) (hcap : n.toNatClampNeg ≤ cap) (hvs : List.replicate cap (defaultValue ty) = vs) (hb : cap * 8 ≤ 536870912) (hc : cells + 1 ≤ R.cells) (hl : slots + cap ≤ R.slots) (hq : pc + 2 = q)
    (k : ∀ (T' : State) (h' : Heap) (a : Addr) (kA : ClassId), Stand p l e R s m args below meth c T' locs (cells + 1) (slots + cap) → T'.heap = h' → Ext h h' → h.size = a → Arv Z h' a kA ty n vs (defaultValue ty) → Go p e below P T' (mkF m q Ls (.ref a :: S))) : Go p e below P T (mkF m pc Ls (.int n :: S)) := by
  subst hq hty hvs
  obtain ⟨T1, h1, kA, X1, e1, E1, A1, st⟩ := newP X K.x K.z w eT (g := mkF m pc Ls (.int n :: S)) rfl (K.d hd) rfl hn hcap hb hc hl
  exact Go.by_ st (k T1 h1 _ kA X1 e1 E1 rfl ((Arv.new A1 hn).pad (pad_rep [] _ cap)))
theorem g_newr {index : Nat} {C : String} {n : Int32} {cap : Nat} {vs : List Value} (X : Stand p l e R s m args below meth c T locs cells slots) (K : Kt p Z s m meth c y bytes maxL ret) (w : (Jvm.Cond.classLink y.cls index C).before a0 Z = true) (w2 : (Jvm.Cond.arrayOver (.object C)).before a0 Z = true) (eT : T.heap = h) (hd : decode bytes pc = .ok (.anewarray index, 3)) (hn : ¬ n < 0) (hcap : n.toNatClampNeg ≤ cap) (hvs : List.replicate cap Value.null = vs) (hb : cap * 8 ≤ 536870912) (hc : cells + 1 ≤ R.cells) (hl : slots + cap ≤ R.slots) (hq : pc + 3 = q)
    (k : ∀ (T' : State) (h' : Heap) (a : Addr) (kA : ClassId), Stand p l e R s m args below meth c T' locs (cells + 1) (slots + cap) → T'.heap = h' → Ext h h' → h.size = a → Arv Z h' a kA (.object C) n vs .null → Ovr Z kA C → Go p e below P T' (mkF m q Ls (.ref a :: S))) : Go p e below P T (mkF m pc Ls (.int n :: S)) := by
  subst hq hvs
  obtain ⟨T1, h1, kA, X1, e1, E1, A1, O1, st⟩ := newR X K.x K.z K.own w w2 eT (g := mkF m pc Ls (.int n :: S)) rfl (K.d hd) rfl hn hcap hb hc hl
  exact Go.by_ st (k T1 h1 _ kA X1 e1 E1 rfl ((Arv.new A1 hn).pad (pad_rep [] _ cap)) O1)
theorem g_grid {index : Nat} {C ad : String} {ty : FieldType} {n k : Int32} {N cap : Nat} {vs : List Value} (X : Stand p l e R s m args below meth c T locs cells slots) (K : Kt p Z s m meth c y bytes maxL ret) (hC : (FieldType.array ty).toString = C) (had : "[" ++ C = ad) (w1 : (Jvm.Cond.classLink y.cls index ad).before a0 Z = true) (w2 : (Jvm.Cond.arrayOver (.array ty)).before a0 Z = true) (w3 : (Jvm.Cond.arrayClass ty).before a0 Z = true) (eT : T.heap = h) (hd : decode bytes pc = .ok (.multianewarray index 2, 4)) (hn : ¬ n < 0) (hk : ¬ k < 0) (hN : n.toNatClampNeg = N) (hcap : k.toNatClampNeg ≤ cap) (hvs : List.replicate cap (defaultValue ty) = vs) (hb : cap * 8 ≤ 536870912) (hb1 : N ≤ 1000) (hdf : fits ty (defaultValue ty) = true) (hdd : (defaultValue ty).isDefault = true) (hc : cells + (1 + N) ≤ R.cells) (hl : slots + (N + N * cap) ≤ R.slots) (hq : pc + 4 = q)
    (kk : ∀ (T' : State) (h' : Heap) (a : Addr) (kA kI : ClassId), Stand p l e R s m args below meth c T' locs (cells + (1 + N)) (slots + (N + N * cap)) → T'.heap = h' → Ext h h' → h.size = a → Arv Z h' a kA (.array ty) n ((List.range N).map fun j => Value.ref (a + 1 + j)) .null → (∀ j : Nat, j < N → Arv Z h' (a + 1 + j) kI ty k vs (defaultValue ty)) → Go p e below P T' (mkF m q Ls (.ref a :: S))) : Go p e below P T (mkF m pc Ls (.int k :: .int n :: S)) := by
  subst hq hvs
  obtain ⟨T1, h1, kA, kI, X1, e1, E1, A1, -, -, I1, st⟩ := gridM X K.x K.z K.own hC had w1 w2 w3 eT (g := mkF m pc Ls (.int k :: .int n :: S)) rfl (K.d hd) rfl hn hk hN rfl hcap hb hb1 hdf hdd hc hl
  refine Go.by_ st (kk T1 h1 _ kA kI X1 e1 E1 rfl ?_ fun j hj => ?_)
  · simpa [List.map_map, Function.comp_def] using A1
  · exact (Arv.new (I1 j _ (by simp [hj])).1 hk).pad (pad_rep [] _ cap)
theorem arv_set {a : Addr} {kA : ClassId} {ty : FieldType} {n j : Int32} {vs vs' : List Value} {dv v : Value} {h' : Heap} (A : Arv Z h a kA ty n vs dv) (hv : fits ty v = true) (W : Wr h h' a j.toNatClampNeg v) (hl : j.toNatClampNeg < vs.length) (hs : vs.set j.toNatClampNeg v = vs') : Arv Z h' a kA ty n vs' dv := by
  subst hs
  obtain ⟨cl, Ar, q1, Sz, Nn, H, G⟩ := A
  exact Arv.set Ar q1 Sz Nn H G hv W _ rfl hl
theorem g_iast {a : Addr} {kA : ClassId} {n j x : Int32} {vs vs' : List Value} {dv : Value} (X : Stand p l e R s m args below meth c T locs cells slots) (K : Kt p Z s m meth c y bytes maxL ret) (eT : T.heap = h) (A : Arv Z h a kA .int n vs dv) (hj : ¬ j < 0 ∧ j < n) (hl : j.toNatClampNeg < vs.length) (hs : vs.set j.toNatClampNeg (.int x) = vs') (hd : decode bytes pc = .ok (.iastore, 1)) (hq : pc + 1 = q)
    (k : ∀ T' h', Stand p l e R s m args below meth c T' (locs ++ [⟨a, j.toNatClampNeg⟩]) cells slots → T'.heap = h' → Wr h h' a j.toNatClampNeg (.int x) → Arv Z h' a kA .int n vs' dv → Go p e below P T' (mkF m q Ls S)) : Go p e below P T (mkF m pc Ls (.int x :: .int j :: .ref a :: S)) := by
  subst hq
  obtain ⟨cl, Ar, hin, -⟩ := arv_at A hj rfl
  obtain ⟨T1, h1, X1, e1, W1, st⟩ := stI X K.x K.z eT Ar hin (g := mkF m pc Ls (.int x :: .int j :: .ref a :: S)) rfl rfl (K.d hd)
  exact Go.by_ st (k T1 h1 X1 e1 W1 (arv_set A rfl W1 hl hs))
theorem g_last {a : Addr} {kA : ClassId} {n j : Int32} {x : Int64} {vs vs' : List Value} {dv : Value} (X : Stand p l e R s m args below meth c T locs cells slots) (K : Kt p Z s m meth c y bytes maxL ret) (eT : T.heap = h) (A : Arv Z h a kA .long n vs dv) (hj : ¬ j < 0 ∧ j < n) (hl : j.toNatClampNeg < vs.length) (hs : vs.set j.toNatClampNeg (.long x) = vs') (hd : decode bytes pc = .ok (.lastore, 1)) (hq : pc + 1 = q)
    (k : ∀ T' h', Stand p l e R s m args below meth c T' (locs ++ [⟨a, j.toNatClampNeg⟩]) cells slots → T'.heap = h' → Wr h h' a j.toNatClampNeg (.long x) → Arv Z h' a kA .long n vs' dv → Go p e below P T' (mkF m q Ls S)) : Go p e below P T (mkF m pc Ls (.long x :: .int j :: .ref a :: S)) := by
  subst hq
  obtain ⟨cl, Ar, hin, -⟩ := arv_at A hj rfl
  obtain ⟨T1, h1, X1, e1, W1, st⟩ := stJ X K.x K.z eT Ar hin (g := mkF m pc Ls (.long x :: .int j :: .ref a :: S)) rfl rfl (K.d hd)
  exact Go.by_ st (k T1 h1 X1 e1 W1 (arv_set A rfl W1 hl hs))
theorem g_bast {a : Addr} {kA : ClassId} {n j x z : Int32} {vs vs' : List Value} {dv : Value} (X : Stand p l e R s m args below meth c T locs cells slots) (K : Kt p Z s m meth c y bytes maxL ret) (eT : T.heap = h) (A : Arv Z h a kA .byte n vs dv) (hj : ¬ j < 0 ∧ j < n) (hl : j.toNatClampNeg < vs.length) (hz : nar .byte x = z) (hs : vs.set j.toNatClampNeg (.int z) = vs') (hd : decode bytes pc = .ok (.bastore, 1)) (hq : pc + 1 = q)
    (k : ∀ T' h', Stand p l e R s m args below meth c T' (locs ++ [⟨a, j.toNatClampNeg⟩]) cells slots → T'.heap = h' → Wr h h' a j.toNatClampNeg (.int z) → Arv Z h' a kA .byte n vs' dv → Go p e below P T' (mkF m q Ls S)) : Go p e below P T (mkF m pc Ls (.int x :: .int j :: .ref a :: S)) := by
  subst hq hz
  obtain ⟨cl, Ar, hin, -⟩ := arv_at A hj rfl
  obtain ⟨T1, h1, X1, e1, W1, st⟩ := stB X K.x K.z eT Ar hin (g := mkF m pc Ls (.int x :: .int j :: .ref a :: S)) rfl rfl (K.d hd)
  exact Go.by_ st (k T1 h1 X1 e1 W1 (arv_set A (fits_nar_byte _) W1 hl hs))
theorem g_zast {a : Addr} {kA : ClassId} {n j x z : Int32} {vs vs' : List Value} {dv : Value} (X : Stand p l e R s m args below meth c T locs cells slots) (K : Kt p Z s m meth c y bytes maxL ret) (eT : T.heap = h) (A : Arv Z h a kA .boolean n vs dv) (hj : ¬ j < 0 ∧ j < n) (hl : j.toNatClampNeg < vs.length) (hz : nar .boolean x = z) (hs : vs.set j.toNatClampNeg (.int z) = vs') (hd : decode bytes pc = .ok (.bastore, 1)) (hq : pc + 1 = q)
    (k : ∀ T' h', Stand p l e R s m args below meth c T' (locs ++ [⟨a, j.toNatClampNeg⟩]) cells slots → T'.heap = h' → Wr h h' a j.toNatClampNeg (.int z) → Arv Z h' a kA .boolean n vs' dv → Go p e below P T' (mkF m q Ls S)) : Go p e below P T (mkF m pc Ls (.int x :: .int j :: .ref a :: S)) := by
  subst hq hz
  obtain ⟨cl, Ar, hin, -⟩ := arv_at A hj rfl
  obtain ⟨T1, h1, X1, e1, W1, st⟩ := stZ X K.x K.z eT Ar hin (g := mkF m pc Ls (.int x :: .int j :: .ref a :: S)) rfl rfl (K.d hd)
  exact Go.by_ st (k T1 h1 X1 e1 W1 (arv_set A (fits_nar_bool _) W1 hl hs))
theorem g_aast {a : Addr} {kA : ClassId} {C : String} {n j : Int32} {v : Value} {vs vs' : List Value} {dv : Value} (X : Stand p l e R s m args below meth c T locs cells slots) (K : Kt p Z s m meth c y bytes maxL ret) (eT : T.heap = h) (A : Arv Z h a kA (.object C) n vs dv) (hv : v = .null ∨ ∃ b, v = .ref b ∧ Ovr Z kA C ∧ Ins Z h b C true) (hj : ¬ j < 0 ∧ j < n) (hl : j.toNatClampNeg < vs.length) (hs : vs.set j.toNatClampNeg v = vs') (hd : decode bytes pc = .ok (.aastore, 1)) (hq : pc + 1 = q)
    (k : ∀ T' h', Stand p l e R s m args below meth c T' (locs ++ [⟨a, j.toNatClampNeg⟩]) cells slots → T'.heap = h' → Wr h h' a j.toNatClampNeg v → Arv Z h' a kA (.object C) n vs' dv → Go p e below P T' (mkF m q Ls S)) : Go p e below P T (mkF m pc Ls (v :: .int j :: .ref a :: S)) := by
  subst hq
  have hfit : fits (.object C) v = true := by rcases hv with rfl | ⟨b, rfl, -⟩ <;> rfl
  obtain ⟨cl, Ar, q1, Sz, -⟩ := id A
  have hin := inb_of Sz hj
  have F : Sto Z h a v := by
    rcases hv with rfl | ⟨b, rfl, O, I⟩
    · exact Or.inl rfl
    · exact Sto.ofV Ar q1 O I
  obtain ⟨T1, h1, X1, e1, W1, st⟩ := stR X K.x K.z eT Ar hin rfl F (g := mkF m pc Ls (v :: .int j :: .ref a :: S)) rfl rfl (K.d hd)
  exact Go.by_ st (k T1 h1 X1 e1 W1 (arv_set A hfit W1 hl hs))
/-! calls -/
variable {y' : MethodName} {bytes' : ByteArray} {maxL' : Nat} {ret' : Option FieldType} {rm : Room} {as' : Array Value} {Q' : Option Value → Heap → List Loc → Prop} {index : Nat} {argsL rest : List Value} {W : Nat}
theorem g_static (X : Stand p l e R s m args below meth c T locs cells slots) (K : Kt p Z s m meth c y bytes maxL ret) (w1 : (Jvm.Cond.methodLink y.cls index y').before a0 Z = true) (w2 : (Jvm.Cond.static y').before a0 Z = true) (w3 : (Jvm.Cond.initialized y'.cls).before a0 Z = true) (w4 : (Jvm.Cond.code y' bytes' maxL' ret').before a0 Z = true) (hy : y'.cls ≠ "java/lang/invoke/MethodHandle" ∧ y'.cls ≠ "java/lang/invoke/VarHandle")
    (hM : Mt l Z y' bytes' maxL' ret' [] rm as' h Q') (eT : T.heap = h) (hsz : Ls.size = maxL) (hlen : ∀ sig, parseMethodDescriptor y'.desc = some sig → argsL.length = sig.parameters.length) (hst : S = argsL.reverse ++ rest) (has : argsL.toArray = as') (hW : (rest.map fun v => v.category).sum ≤ W) (hd : decode bytes pc = .ok (.invokestatic index, 3))
    (hf : rm.frames + 1 ≤ R.frames) (hl : W + (maxL' + 11) + rm.locals ≤ R.locals) (hc : cells + rm.cells ≤ R.cells) (hs : slots + rm.slots ≤ R.slots) (hq : pc + 3 = q)
    (k : ∀ T' v L, Stand p l e R s m args below meth c T' (locs ++ L) (cells + rm.cells) (slots + rm.slots) → Q' v T'.heap L → Go p e below P T' (mkF m q Ls (v.toList ++ rest))) : Go p e below P T (mkF m pc Ls S) := by
  subst hq has hst
  obtain ⟨v, _, ⟨T1, L1, k1, n1⟩, -, X1, ⟨Lc, hQ, l1, y1, z1⟩, st⟩ := Jvm.LawKit.callS X K.x (y := y') K.own (mvT K.z w1) (mvT K.z w2) (mvT K.z w3) (mvT K.z w4) hy (backOf (W := W) hM K.z w4 w3 hf hl) (g := mkF m pc Ls (argsL.reverse ++ rest)) rfl (by rw [K.ml]; exact hsz) (argsL := argsL) (rest := rest) hlen rfl (by show 2 * 0 + _ ≤ _; omega) (K.d hd) (fun _ _ => ⟨rfl, eT, hc, hs⟩)
  dsimp only [Pt.U, Pt.locs, Pt.cells, Pt.slots] at X1 l1 y1 z1 st hQ
  subst l1 y1 z1
  exact Go.by_ st (k T1 v Lc X1 hQ)
theorem g_special {a : Addr} (X : Stand p l e R s m args below meth c T locs cells slots) (K : Kt p Z s m meth c y bytes maxL ret) (hy1 : y'.name = "<init>") (w1 : (Jvm.Cond.methodLink y.cls index y').before a0 Z = true) (w2 : (Jvm.Cond.instanceMethod y').before a0 Z = true) (w3 : (Jvm.Cond.initialized y'.cls).before a0 Z = true) (w4 : (Jvm.Cond.code y' bytes' maxL' none).before a0 Z = true) (hy : y'.cls ≠ "java/lang/invoke/MethodHandle" ∧ y'.cls ≠ "java/lang/invoke/VarHandle")
    (hM : Mt l Z y' bytes' maxL' none [] rm as' h Q') (eT : T.heap = h) (hsz : Ls.size = maxL) (hlen : ∀ sig, parseMethodDescriptor y'.desc = some sig → argsL.length = sig.parameters.length) (hst : S = argsL.reverse ++ .ref a :: rest) (has : (Value.ref a :: argsL).toArray = as') (hW : (rest.map fun v => v.category).sum ≤ W) (hd : decode bytes pc = .ok (.invokespecial index, 3))
    (hf : rm.frames + 1 ≤ R.frames) (hl : W + (maxL' + 11) + rm.locals ≤ R.locals) (hc : cells + rm.cells ≤ R.cells) (hs : slots + rm.slots ≤ R.slots) (hq : pc + 3 = q)
    (k : ∀ T' v L, Stand p l e R s m args below meth c T' (locs ++ L) (cells + rm.cells) (slots + rm.slots) → Q' v T'.heap L → Go p e below P T' (mkF m q Ls (v.toList ++ rest))) : Go p e below P T (mkF m pc Ls S) := by
  subst hq has hst
  obtain ⟨v, _, ⟨T1, L1, k1, n1⟩, -, X1, ⟨Lc, hQ, l1, y1, z1⟩, st⟩ := X.specialBack K.x (y := y') hy1 K.own (mvT K.z w1) (mvT K.z w2) (mvT K.z w4) hy (backOf (W := W) hM K.z w4 w3 hf hl) (g := mkF m pc Ls (argsL.reverse ++ .ref a :: rest)) rfl (by rw [K.ml]; exact hsz) (Steps.refl _) (a := a) (argsL := argsL) (rest := rest) hlen rfl (by show 2 * 0 + _ ≤ _; omega) (K.d hd) (fun _ _ => ⟨rfl, eT, hc, hs⟩)
  dsimp only [Pt.U, Pt.locs, Pt.cells, Pt.slots] at X1 l1 y1 z1 st hQ
  subst l1 y1 z1
  exact Go.tr st (k T1 v Lc X1 hQ)
theorem g_virtual {a : Addr} {C : String} {z' : MethodName} (X : Stand p l e R s m args below meth c T locs cells slots) (K : Kt p Z s m meth c y bytes maxL ret) (w1 : (Jvm.Cond.methodLink y.cls index y').before a0 Z = true) (w2 : (Jvm.Cond.declares y').before a0 Z = true) (nf : NotFace s y') (w5 : (Jvm.Cond.selects C y' z').before a0 Z = true) (w6 : (Jvm.Cond.instanceMethod z').before a0 Z = true) (w3 : (Jvm.Cond.initialized z'.cls).before a0 Z = true) (w4 : (Jvm.Cond.code z' bytes' maxL' ret').before a0 Z = true) (hy : y'.cls ≠ "java/lang/invoke/MethodHandle" ∧ y'.cls ≠ "java/lang/invoke/VarHandle")
    (hM : Mt l Z z' bytes' maxL' ret' [] rm as' h Q') (eT : T.heap = h) (E : Exa Z h a C) (hsz : Ls.size = maxL) (hlen : ∀ sig, parseMethodDescriptor y'.desc = some sig → argsL.length = sig.parameters.length) (hst : S = argsL.reverse ++ .ref a :: rest) (has : (Value.ref a :: argsL).toArray = as') (hW : (rest.map fun v => v.category).sum ≤ W) (hd : decode bytes pc = .ok (.invokevirtual index, 3))
    (hf : rm.frames + 1 ≤ R.frames) (hl : W + (maxL' + 11) + rm.locals ≤ R.locals) (hc : cells + rm.cells ≤ R.cells) (hs : slots + rm.slots ≤ R.slots) (hq : pc + 3 = q)
    (k : ∀ T' v L, Stand p l e R s m args below meth c T' (locs ++ L) (cells + rm.cells) (slots + rm.slots) → Q' v T'.heap L → Go p e below P T' (mkF m q Ls (v.toList ++ rest))) : Go p e below P T (mkF m pc Ls S) := by
  subst hq has hst
  obtain ⟨cq, kq, qa, qb, qc⟩ := isOf K.z eT E
  obtain ⟨v, _, ⟨T1, L1, k1, n1⟩, -, X1, ⟨Lc, hQ, l1, y1, z1⟩, st⟩ := X.virtualBack K.x (y := y') (z := z') K.own (mvT K.z w1) (mvT K.z w2) nf (mvT K.z w5) (mvT K.z w6) hy (backOf (W := W) hM K.z w4 w3 hf hl) qa qc (g := mkF m pc Ls (argsL.reverse ++ .ref a :: rest)) rfl (by rw [K.ml]; exact hsz) (Steps.refl _) (argsL := argsL) (rest := rest) hlen rfl (by show 2 * 0 + _ ≤ _; omega) (K.d hd) (fun _ _ => ⟨rfl, eT, hc, hs⟩)
  dsimp only [Pt.U, Pt.locs, Pt.cells, Pt.slots] at X1 l1 y1 z1 st hQ
  subst l1 y1 z1
  exact Go.tr st (k T1 v Lc X1 hQ)
theorem g_virtualUp {a : Addr} {C owner : String} {z' : MethodName} (X : Stand p l e R s m args below meth c T locs cells slots) (K : Kt p Z s m meth c y bytes maxL ret) (w1 : (Jvm.Cond.methodLink y.cls index y').before a0 Z = true) (w0 : (Jvm.Cond.sameMethod y'.cls owner y'.name y'.desc).before a0 Z = true) (w2 : (Jvm.Cond.declares ⟨owner, y'.name, y'.desc⟩).before a0 Z = true) (hy : owner ≠ "java/lang/invoke/MethodHandle" ∧ owner ≠ "java/lang/invoke/VarHandle") (w5 : (Jvm.Cond.selects C y' z').before a0 Z = true) (w6 : (Jvm.Cond.instanceMethod z').before a0 Z = true) (w3 : (Jvm.Cond.initialized z'.cls).before a0 Z = true) (w4 : (Jvm.Cond.code z' bytes' maxL' ret').before a0 Z = true)
    (hM : Mt l Z z' bytes' maxL' ret' [] rm as' h Q') (eT : T.heap = h) (E : Exa Z h a C) (hsz : Ls.size = maxL) (hlen : ∀ sig, parseMethodDescriptor y'.desc = some sig → argsL.length = sig.parameters.length) (hst : S = argsL.reverse ++ .ref a :: rest) (has : (Value.ref a :: argsL).toArray = as') (hW : (rest.map fun v => v.category).sum ≤ W) (hd : decode bytes pc = .ok (.invokevirtual index, 3))
    (hf : rm.frames + 1 ≤ R.frames) (hl : W + (maxL' + 11) + rm.locals ≤ R.locals) (hc : cells + rm.cells ≤ R.cells) (hs : slots + rm.slots ≤ R.slots) (hq : pc + 3 = q)
    (k : ∀ T' v L, Stand p l e R s m args below meth c T' (locs ++ L) (cells + rm.cells) (slots + rm.slots) → Q' v T'.heap L → Go p e below P T' (mkF m q Ls (v.toList ++ rest))) : Go p e below P T (mkF m pc Ls S) := by
  subst hq has hst
  obtain ⟨cq, kq, qa, qb, qc⟩ := isOf K.z eT E
  obtain ⟨v, _, ⟨T1, L1, k1, n1⟩, -, X1, ⟨Lc, hQ, l1, y1, z1⟩, st⟩ := X.virtualBackUp K.x (x := y') (y := z') K.own (mvT K.z w1) (mvT K.z w0) (mvT K.z w2) hy (mvT K.z w5) (mvT K.z w6) (backOf (W := W) hM K.z w4 w3 hf hl) qa qc (g := mkF m pc Ls (argsL.reverse ++ .ref a :: rest)) rfl (by rw [K.ml]; exact hsz) (Steps.refl _) (argsL := argsL) (rest := rest) hlen rfl (by show 2 * 0 + _ ≤ _; omega) (K.d hd) (fun _ _ => ⟨rfl, eT, hc, hs⟩)
  dsimp only [Pt.U, Pt.locs, Pt.cells, Pt.slots] at X1 l1 y1 z1 st hQ
  subst l1 y1 z1
  exact Go.tr st (k T1 v Lc X1 hQ)
theorem g_face {a : Addr} {C : String} {z' : MethodName} {cnt : Nat} (X : Stand p l e R s m args below meth c T locs cells slots) (K : Kt p Z s m meth c y bytes maxL ret) (w1 : (Jvm.Cond.methodLink y.cls index y').before a0 Z = true) (w2 : (Jvm.Cond.declares y').before a0 Z = true) (wf : (Jvm.Cond.interfaceMethod y'.cls y'.cls y'.name y'.desc).before args s = true) (w5 : (Jvm.Cond.selects C y' z').before a0 Z = true) (w6 : (Jvm.Cond.instanceMethod z').before a0 Z = true) (wp : (Jvm.Cond.publicMethod z').before a0 Z = true) (wu : (Jvm.Cond.unhidden C y'.name y'.desc).before a0 Z = true) (wca : (Jvm.Cond.castable C y'.cls).before a0 Z = true) (w3 : (Jvm.Cond.initialized z'.cls).before a0 Z = true) (w4 : (Jvm.Cond.code z' bytes' maxL' ret').before a0 Z = true) (hy : y'.cls ≠ "java/lang/invoke/MethodHandle" ∧ y'.cls ≠ "java/lang/invoke/VarHandle")
    (hM : Mt l Z z' bytes' maxL' ret' [] rm as' h Q') (eT : T.heap = h) (E : Exa Z h a C) (hsz : Ls.size = maxL) (hlen : ∀ sig, parseMethodDescriptor y'.desc = some sig → argsL.length = sig.parameters.length) (hst : S = argsL.reverse ++ .ref a :: rest) (has : (Value.ref a :: argsL).toArray = as') (hW : (rest.map fun v => v.category).sum ≤ W) (hd : decode bytes pc = .ok (.invokeinterface index cnt, 5))
    (hf : rm.frames + 1 ≤ R.frames) (hl : W + (maxL' + 11) + rm.locals ≤ R.locals) (hc : cells + rm.cells ≤ R.cells) (hs : slots + rm.slots ≤ R.slots) (hq : pc + 5 = q)
    (k : ∀ T' v L, Stand p l e R s m args below meth c T' (locs ++ L) (cells + rm.cells) (slots + rm.slots) → Q' v T'.heap L → Go p e below P T' (mkF m q Ls (v.toList ++ rest))) : Go p e below P T (mkF m pc Ls S) := by
  subst hq has hst
  obtain ⟨cq, kq, qa, qb, qc⟩ := isOf K.z eT E
  obtain ⟨v, _, ⟨T1, L1, k1, n1⟩, -, X1, ⟨Lc, hQ, l1, y1, z1⟩, st⟩ := X.interfaceBack K.x (xi := y') (y := z') K.own (mvT K.z w1) (mvT K.z w2) wf (mvT K.z w5) (mvT K.z w6) (mvT K.z wp) (mvT K.z wu) (mvT K.z wca) hy (backOf (W := W) hM K.z w4 w3 hf hl) qa qb qc (g := mkF m pc Ls (argsL.reverse ++ .ref a :: rest)) rfl (by rw [K.ml]; exact hsz) (Steps.refl _) (argsL := argsL) (rest := rest) hlen rfl (by show 2 * 0 + _ ≤ _; omega) (K.d hd) (fun _ _ => ⟨rfl, eT, hc, hs⟩)
  dsimp only [Pt.U, Pt.locs, Pt.cells, Pt.slots] at X1 l1 y1 z1 st hQ
  subst l1 y1 z1
  exact Go.tr st (k T1 v Lc X1 hQ)
theorem nf_self {C : String} (K : Kt p Z s m meth c y bytes maxL ret) (w : (Jvm.Cond.selects C y' y').before a0 Z = true) : NotFace s y' := notFace_of_selects (args := #[]) (mvT K.z w)
end Heap
end Own
section Start
variable {Z : State} {a0 : Array Value} {t u : Jvm.Term} {n : Int32} {a : Addr} {ty : FieldType} {vs : List Value} {dv v : Value}
def adOf (C n d : String) (Z : State) (a0 : Array Value) : Addr := match (Jvm.Term.static C n d).eval a0 Z none [] Z with | some (.ref a) => a | _ => 0
theorem own_ad {C n d : String} (h : ∃ x, (Jvm.Term.static C n d).eval a0 Z none [] Z = some (.ref x)) : (Jvm.Term.static C n d).eval a0 Z none [] Z = some (.ref (adOf C n d Z a0)) := by
  obtain ⟨x, hx⟩ := h; simp only [adOf, hx]
theorem own_eqint (h : (Jvm.Cond.eq t (.int n)).value a0 Z none Z [] = some true) : t.eval a0 Z none [] Z = some (.int n) := by
  obtain ⟨x, y, h1, h2, h3, -⟩ := cmp_v (Or.inl h)
  cases h2
  cases x <;> first | (simp [Kin, Value.isRef] at h3; done) | skip
  rw [h1]
  have q := gotT (Cond.eq_ints h1 rfl) h
  rw [q]
theorem own_eqref (h : (Jvm.Cond.eq t u).value a0 Z none Z [] = some true) (hu : u.eval a0 Z none [] Z = some (.ref a)) : t.eval a0 Z none [] Z = some (.ref a) := by
  obtain ⟨x, y, h1, h2, h3, h4⟩ := cmp_v (Or.inl h)
  cases h2.symm.trans hu
  have hx : x.isRef = true := by cases x <;> first | rfl | exact h3.1 | (simp [Kin] at h3; done)
  have q := gotT (eq_R h1 hu hx rfl) h
  rw [h1, q]
def kaOf (Z : State) (a : Addr) : ClassId := match Z.heap[a]? with | some c => c.cls | none => 0
theorem own_len (h : (Jvm.Term.length t).eval a0 Z none [] Z = some (.int n)) (ht : t.eval a0 Z none [] Z = some (.ref a)) : ∃ cl : Cell, Z.heap[a]? = some cl ∧ cl.slots.size < 2 ^ 31 ∧ cl.slots.size.toInt32 = n := by
  obtain ⟨a', cl, h1, h2, h3⟩ := Term.length_spec h
  cases ht.symm.trans h1
  refine ⟨cl, (State.arrayAt?_spec h2).1, ?_, by cases h3; rfl⟩
  by_cases q : cl.slots.size < 2147483648
  · exact q
  · simp [Term.eval, ht, h2, q] at h
theorem own_arv (hf : Fit Z) (ht : t.eval a0 Z none [] Z = some (.ref a)) (ha : (Jvm.Cond.arrayOf t ty).value a0 Z none Z [] = some true) (hl : (Jvm.Cond.eq (Jvm.Term.length t) (.int n)).value a0 Z none Z [] = some true) (hn : ¬ n < 0) (hv : n.toNatClampNeg = vs.length) (he : ∀ cl : Cell, Z.heap[a]? = some cl → HasL cl 0 vs) : Arv Z Z.heap a (kaOf Z a) ty n vs dv := by
  obtain ⟨cl, A⟩ := Arr.start ht ha
  obtain ⟨cl', h1, h2, h3⟩ := own_len (own_eqint hl) ht
  cases A.1.symm.trans h1
  have e : kaOf Z a = cl.cls := by simp only [kaOf, A.1]
  rw [e]
  exact Arv.start hf A h2 h3 hn hv (he cl A.1)
theorem own_el {j : Int32} {i : Nat} {cl : Cell} (h : (Jvm.Term.elem t (.int j)).eval a0 Z none [] Z = some v) (ht : t.eval a0 Z none [] Z = some (.ref a)) (hc : Z.heap[a]? = some cl) (hi : j.toNatClampNeg = i) : cl.slots[i]? = some v := by
  subst hi; exact (elem_in h ht (Term.int_eval j) hc).2
theorem own_lit {z k : Int32} {i : Int} (h : z.toInt = i) (hk : k.toInt = i) : z = k := Int32.toInt_inj.mp (h.trans hk.symm)
theorem own_max (x : Int32) : 0 ≤ (x &&& 2147483647).toInt := (c_andS x 2147483647).2.2 (by decide)
theorem own_rem (x : Int32) {n : Int32} {k : Int} (hk : n.toInt = k) (h0 : 0 < k) : 0 ≤ ((x &&& 2147483647) % n).toInt ∧ ((x &&& 2147483647) % n).toInt < k := by
  rw [(c_irem (x &&& 2147483647) n k hk).1 (own_max x)]
  exact ⟨Int.emod_nonneg _ (by omega), Int.emod_lt_of_pos _ h0⟩
variable {x k : Int32} {m : Int}
theorem own_ltI (hk : k.toInt = m) (h : x.toInt < m) : x < k := by rw [Int32.lt_iff_toInt_lt, hk]; exact h
theorem own_nltI (hk : k.toInt = m) (h : ¬ x.toInt < m) : ¬ (x < k) := by rw [Int32.lt_iff_toInt_lt, hk]; exact h
theorem own_gtI (hk : k.toInt = m) (h : m < x.toInt) : k < x := by rw [Int32.lt_iff_toInt_lt, hk]; exact h
theorem own_ngtI (hk : k.toInt = m) (h : ¬ m < x.toInt) : ¬ (k < x) := by rw [Int32.lt_iff_toInt_lt, hk]; exact h
theorem own_eqI (hk : k.toInt = m) (h : x.toInt = m) : x = k := own_lit h hk
theorem own_neI (hk : k.toInt = m) (h : x.toInt ≠ m) : ¬ (x = k) := fun q => h (by rw [q]; exact hk)
theorem own_ltE (hk : k.toInt = m) (h : x < k) : x.toInt < m := by rw [Int32.lt_iff_toInt_lt, hk] at h; exact h
theorem own_nltE (hk : k.toInt = m) (h : ¬ (x < k)) : ¬ x.toInt < m := by rw [Int32.lt_iff_toInt_lt, hk] at h; exact h
theorem own_gtE (hk : k.toInt = m) (h : k < x) : m < x.toInt := by rw [Int32.lt_iff_toInt_lt, hk] at h; exact h
theorem own_ngtE (hk : k.toInt = m) (h : ¬ (k < x)) : ¬ m < x.toInt := by rw [Int32.lt_iff_toInt_lt, hk] at h; exact h
theorem own_eqE (hk : k.toInt = m) (h : x = k) : x.toInt = m := by rw [h]; exact hk
theorem own_neE (hk : k.toInt = m) (h : ¬ (x = k)) : x.toInt ≠ m := fun q => h (own_lit q hk)
theorem own_some {a b : Int32} (h : a = b) : some (Value.int a) = some (Value.int b) := by rw [h]
theorem own_if1 {P : Prop} [Decidable P] (h : P) : (1 : Int32) = if P then 1 else 0 := (if_pos h).symm
theorem own_if0 {P : Prop} [Decidable P] (h : ¬ P) : (0 : Int32) = if P then 1 else 0 := (if_neg h).symm
theorem own_nar {P : Prop} [Decidable P] : nar .boolean (if P then (1 : Int32) else 0) = if P then 1 else 0 := by split <;> rfl
end Start
theorem own_sp5 (x : Int32) : (x &&& (2147483647 : Int32)) % (5 : Int32) = (0 : Int32) ∨ (x &&& (2147483647 : Int32)) % (5 : Int32) = (1 : Int32) ∨ (x &&& (2147483647 : Int32)) % (5 : Int32) = (2 : Int32) ∨ (x &&& (2147483647 : Int32)) % (5 : Int32) = (3 : Int32) ∨ (x &&& (2147483647 : Int32)) % (5 : Int32) = (4 : Int32) := by
  have h := own_rem x (n := (5 : Int32)) (k := 5) (by decide) (by decide)
  generalize (x &&& (2147483647 : Int32)) % (5 : Int32) = z at h ⊢
  have q : z.toInt = 0 ∨ z.toInt = 1 ∨ z.toInt = 2 ∨ z.toInt = 3 ∨ z.toInt = 4 := by omega
  rcases q with q | q | q | q | q
  · exact Or.inl (own_lit q (by decide))
  · exact Or.inr (Or.inl (own_lit q (by decide)))
  · exact Or.inr (Or.inr (Or.inl (own_lit q (by decide))))
  · exact Or.inr (Or.inr (Or.inr (Or.inl (own_lit q (by decide)))))
  · exact Or.inr (Or.inr (Or.inr (Or.inr ((own_lit q (by decide))))))
def Hyp (Z : State) (a0 : Array Value) : Prop := (∀ d ∈ tables_1, d.before a0 Z = true) ∧ narrow_1.value a0 Z none Z [] = some true ∧ Fit Z
section Facts
variable {Z : State} {a0 : Array Value}
theorem w0 (H : Hyp Z a0) : (Jvm.Cond.constant "com/example/orderwire/orderwire/engine/TimeInForceRestsPinLaw" (7 : Nat) (2147483647 : Int32)).before a0 Z = true := H.1 _ (List.mem_of_getElem? (i := 0) rfl)
theorem w1 (H : Hyp Z a0) : (Jvm.Cond.classLink "com/example/orderwire/orderwire/engine/TimeInForceRestsPinLaw" (8 : Nat) "com/example/orderwire/orderwire/engine/TimeInForce").before a0 Z = true := H.1 _ (List.mem_of_getElem? (i := 1) rfl)
theorem w2 (H : Hyp Z a0) : (Jvm.Cond.arrayOver (Jvm.ClassFile.FieldType.object "com/example/orderwire/orderwire/engine/TimeInForce")).before a0 Z = true := H.1 _ (List.mem_of_getElem? (i := 2) rfl)
theorem w3 (H : Hyp Z a0) : (Jvm.Cond.fieldLink "com/example/orderwire/orderwire/engine/TimeInForceRestsPinLaw" (10 : Nat) "com/example/orderwire/orderwire/engine/TimeInForce" "DAY" "Lcom/example/orderwire/orderwire/engine/TimeInForce;").before a0 Z = true := H.1 _ (List.mem_of_getElem? (i := 3) rfl)
theorem w4 (H : Hyp Z a0) : (Jvm.Cond.initialized "com/example/orderwire/orderwire/engine/TimeInForce").before a0 Z = true := H.1 _ (List.mem_of_getElem? (i := 4) rfl)
theorem w5 (H : Hyp Z a0) : (Jvm.Cond.laysStatic "com/example/orderwire/orderwire/engine/TimeInForce" "DAY" "Lcom/example/orderwire/orderwire/engine/TimeInForce;").before a0 Z = true := H.1 _ (List.mem_of_getElem? (i := 5) rfl)
theorem w7 (H : Hyp Z a0) : (Jvm.Cond.fieldLink "com/example/orderwire/orderwire/engine/TimeInForceRestsPinLaw" (14 : Nat) "com/example/orderwire/orderwire/engine/TimeInForce" "GTC" "Lcom/example/orderwire/orderwire/engine/TimeInForce;").before a0 Z = true := H.1 _ (List.mem_of_getElem? (i := 7) rfl)
theorem w8 (H : Hyp Z a0) : (Jvm.Cond.laysStatic "com/example/orderwire/orderwire/engine/TimeInForce" "GTC" "Lcom/example/orderwire/orderwire/engine/TimeInForce;").before a0 Z = true := H.1 _ (List.mem_of_getElem? (i := 8) rfl)
theorem w9 (H : Hyp Z a0) : (Jvm.Cond.fieldLink "com/example/orderwire/orderwire/engine/TimeInForceRestsPinLaw" (17 : Nat) "com/example/orderwire/orderwire/engine/TimeInForce" "GTD" "Lcom/example/orderwire/orderwire/engine/TimeInForce;").before a0 Z = true := H.1 _ (List.mem_of_getElem? (i := 9) rfl)
theorem w10 (H : Hyp Z a0) : (Jvm.Cond.laysStatic "com/example/orderwire/orderwire/engine/TimeInForce" "GTD" "Lcom/example/orderwire/orderwire/engine/TimeInForce;").before a0 Z = true := H.1 _ (List.mem_of_getElem? (i := 10) rfl)
theorem w11 (H : Hyp Z a0) : (Jvm.Cond.fieldLink "com/example/orderwire/orderwire/engine/TimeInForceRestsPinLaw" (20 : Nat) "com/example/orderwire/orderwire/engine/TimeInForce" "IOC" "Lcom/example/orderwire/orderwire/engine/TimeInForce;").before a0 Z = true := H.1 _ (List.mem_of_getElem? (i := 11) rfl)
theorem w12 (H : Hyp Z a0) : (Jvm.Cond.laysStatic "com/example/orderwire/orderwire/engine/TimeInForce" "IOC" "Lcom/example/orderwire/orderwire/engine/TimeInForce;").before a0 Z = true := H.1 _ (List.mem_of_getElem? (i := 12) rfl)
theorem w13 (H : Hyp Z a0) : (Jvm.Cond.fieldLink "com/example/orderwire/orderwire/engine/TimeInForceRestsPinLaw" (23 : Nat) "com/example/orderwire/orderwire/engine/TimeInForce" "FOK" "Lcom/example/orderwire/orderwire/engine/TimeInForce;").before a0 Z = true := H.1 _ (List.mem_of_getElem? (i := 13) rfl)
theorem w14 (H : Hyp Z a0) : (Jvm.Cond.laysStatic "com/example/orderwire/orderwire/engine/TimeInForce" "FOK" "Lcom/example/orderwire/orderwire/engine/TimeInForce;").before a0 Z = true := H.1 _ (List.mem_of_getElem? (i := 14) rfl)
theorem w15 (H : Hyp Z a0) : (Jvm.Cond.arrayClass Jvm.ClassFile.FieldType.boolean).before a0 Z = true := H.1 _ (List.mem_of_getElem? (i := 15) rfl)
theorem w16 (H : Hyp Z a0) : (Jvm.Cond.methodLink "com/example/orderwire/orderwire/engine/TimeInForceRestsPinLaw" (26 : Nat) ({ cls := "com/example/orderwire/orderwire/engine/TimeInForce", name := "rests", desc := "()Z" } : Jvm.MethodName)).before a0 Z = true := H.1 _ (List.mem_of_getElem? (i := 16) rfl)
theorem w17 (H : Hyp Z a0) : (Jvm.Cond.declares ({ cls := "com/example/orderwire/orderwire/engine/TimeInForce", name := "rests", desc := "()Z" } : Jvm.MethodName)).before a0 Z = true := H.1 _ (List.mem_of_getElem? (i := 17) rfl)
theorem w18 (H : Hyp Z a0) : (Jvm.Cond.instanceMethod ({ cls := "com/example/orderwire/orderwire/engine/TimeInForce", name := "rests", desc := "()Z" } : Jvm.MethodName)).before a0 Z = true := H.1 _ (List.mem_of_getElem? (i := 18) rfl)
theorem w19 (H : Hyp Z a0) : (Jvm.Cond.selects "com/example/orderwire/orderwire/engine/TimeInForce" ({ cls := "com/example/orderwire/orderwire/engine/TimeInForce", name := "rests", desc := "()Z" } : Jvm.MethodName) ({ cls := "com/example/orderwire/orderwire/engine/TimeInForce", name := "rests", desc := "()Z" } : Jvm.MethodName)).before a0 Z = true := H.1 _ (List.mem_of_getElem? (i := 19) rfl)
theorem w20 (H : Hyp Z a0) : (Jvm.Cond.code ({ cls := "com/example/orderwire/orderwire/engine/TimeInForce", name := "rests", desc := "()Z" } : Jvm.MethodName) prog_57_method_4_code (1 : Nat) (Option.some Jvm.ClassFile.FieldType.boolean)).before a0 Z = true := H.1 _ (List.mem_of_getElem? (i := 20) rfl)
theorem w21 (H : Hyp Z a0) : (Jvm.Cond.fieldLink "com/example/orderwire/orderwire/engine/TimeInForce" (13 : Nat) "com/example/orderwire/orderwire/engine/TimeInForce" "IOC" "Lcom/example/orderwire/orderwire/engine/TimeInForce;").before a0 Z = true := H.1 _ (List.mem_of_getElem? (i := 21) rfl)
theorem w22 (H : Hyp Z a0) : (Jvm.Cond.fieldLink "com/example/orderwire/orderwire/engine/TimeInForce" (16 : Nat) "com/example/orderwire/orderwire/engine/TimeInForce" "FOK" "Lcom/example/orderwire/orderwire/engine/TimeInForce;").before a0 Z = true := H.1 _ (List.mem_of_getElem? (i := 22) rfl)
theorem n0 (H : Hyp Z a0) : (Jvm.Cond.exactly (Jvm.Term.static "com/example/orderwire/orderwire/engine/TimeInForce" "DAY" "Lcom/example/orderwire/orderwire/engine/TimeInForce;") "com/example/orderwire/orderwire/engine/TimeInForce").value a0 Z none Z [] = some true := (and_e H.2.1).1
theorem n1 (H : Hyp Z a0) : (Jvm.Cond.exactly (Jvm.Term.static "com/example/orderwire/orderwire/engine/TimeInForce" "GTC" "Lcom/example/orderwire/orderwire/engine/TimeInForce;") "com/example/orderwire/orderwire/engine/TimeInForce").value a0 Z none Z [] = some true := (and_e (and_e H.2.1).2).1
theorem n2 (H : Hyp Z a0) : (Jvm.Cond.exactly (Jvm.Term.static "com/example/orderwire/orderwire/engine/TimeInForce" "GTD" "Lcom/example/orderwire/orderwire/engine/TimeInForce;") "com/example/orderwire/orderwire/engine/TimeInForce").value a0 Z none Z [] = some true := (and_e (and_e (and_e H.2.1).2).2).1
theorem n3 (H : Hyp Z a0) : (Jvm.Cond.exactly (Jvm.Term.static "com/example/orderwire/orderwire/engine/TimeInForce" "IOC" "Lcom/example/orderwire/orderwire/engine/TimeInForce;") "com/example/orderwire/orderwire/engine/TimeInForce").value a0 Z none Z [] = some true := (and_e (and_e (and_e (and_e H.2.1).2).2).2).1
theorem n4 (H : Hyp Z a0) : (Jvm.Cond.exactly (Jvm.Term.static "com/example/orderwire/orderwire/engine/TimeInForce" "FOK" "Lcom/example/orderwire/orderwire/engine/TimeInForce;") "com/example/orderwire/orderwire/engine/TimeInForce").value a0 Z none Z [] = some true := (and_e (and_e (and_e (and_e (and_e H.2.1).2).2).2).2).1
theorem n5 (H : Hyp Z a0) : (Jvm.Cond.eq (Jvm.Term.field (Jvm.Term.static "com/example/orderwire/orderwire/engine/TimeInForce" "DAY" "Lcom/example/orderwire/orderwire/engine/TimeInForce;") "java/lang/Enum" "ordinal" "I") (Jvm.Term.int (0 : Int32))).value a0 Z none Z [] = some true := (and_e (and_e (and_e (and_e (and_e (and_e H.2.1).2).2).2).2).2).1
theorem n6 (H : Hyp Z a0) : (Jvm.Cond.eq (Jvm.Term.field (Jvm.Term.static "com/example/orderwire/orderwire/engine/TimeInForce" "IOC" "Lcom/example/orderwire/orderwire/engine/TimeInForce;") "java/lang/Enum" "ordinal" "I") (Jvm.Term.int (3 : Int32))).value a0 Z none Z [] = some true := (and_e (and_e (and_e (and_e (and_e (and_e (and_e H.2.1).2).2).2).2).2).2).1
theorem n7 (H : Hyp Z a0) : (Jvm.Cond.eq (Jvm.Term.field (Jvm.Term.static "com/example/orderwire/orderwire/engine/TimeInForce" "FOK" "Lcom/example/orderwire/orderwire/engine/TimeInForce;") "java/lang/Enum" "ordinal" "I") (Jvm.Term.int (4 : Int32))).value a0 Z none Z [] = some true := (and_e (and_e (and_e (and_e (and_e (and_e (and_e (and_e H.2.1).2).2).2).2).2).2).2).1
theorem n8 (H : Hyp Z a0) : (Jvm.Cond.eq (Jvm.Term.field (Jvm.Term.static "com/example/orderwire/orderwire/engine/TimeInForce" "GTC" "Lcom/example/orderwire/orderwire/engine/TimeInForce;") "java/lang/Enum" "ordinal" "I") (Jvm.Term.int (1 : Int32))).value a0 Z none Z [] = some true := (and_e (and_e (and_e (and_e (and_e (and_e (and_e (and_e (and_e H.2.1).2).2).2).2).2).2).2).2).1
theorem n9 (H : Hyp Z a0) : (Jvm.Cond.eq (Jvm.Term.field (Jvm.Term.static "com/example/orderwire/orderwire/engine/TimeInForce" "GTD" "Lcom/example/orderwire/orderwire/engine/TimeInForce;") "java/lang/Enum" "ordinal" "I") (Jvm.Term.int (2 : Int32))).value a0 Z none Z [] = some true := (and_e (and_e (and_e (and_e (and_e (and_e (and_e (and_e (and_e H.2.1).2).2).2).2).2).2).2).2).2
def ad0 (Z : State) (a0 : Array Value) : Addr := adOf "com/example/orderwire/orderwire/engine/TimeInForce" "DAY" "Lcom/example/orderwire/orderwire/engine/TimeInForce;" Z a0
theorem ev0 (H : Hyp Z a0) : (Jvm.Term.static "com/example/orderwire/orderwire/engine/TimeInForce" "DAY" "Lcom/example/orderwire/orderwire/engine/TimeInForce;").eval a0 Z none [] Z = some (.ref (ad0 Z a0)) := own_ad (exa_v (n0 H))
theorem s0 (H : Hyp Z a0) : Sta Z Z.heap "com/example/orderwire/orderwire/engine/TimeInForce" "DAY" "Lcom/example/orderwire/orderwire/engine/TimeInForce;" (.ref (ad0 Z a0)) := Sta.start (ev0 H) (Or.inr ⟨(w4 H), (w5 H)⟩)
def ad1 (Z : State) (a0 : Array Value) : Addr := adOf "com/example/orderwire/orderwire/engine/TimeInForce" "GTC" "Lcom/example/orderwire/orderwire/engine/TimeInForce;" Z a0
theorem ev1 (H : Hyp Z a0) : (Jvm.Term.static "com/example/orderwire/orderwire/engine/TimeInForce" "GTC" "Lcom/example/orderwire/orderwire/engine/TimeInForce;").eval a0 Z none [] Z = some (.ref (ad1 Z a0)) := own_ad (exa_v (n1 H))
theorem s1 (H : Hyp Z a0) : Sta Z Z.heap "com/example/orderwire/orderwire/engine/TimeInForce" "GTC" "Lcom/example/orderwire/orderwire/engine/TimeInForce;" (.ref (ad1 Z a0)) := Sta.start (ev1 H) (Or.inr ⟨(w4 H), (w8 H)⟩)
def ad2 (Z : State) (a0 : Array Value) : Addr := adOf "com/example/orderwire/orderwire/engine/TimeInForce" "GTD" "Lcom/example/orderwire/orderwire/engine/TimeInForce;" Z a0
theorem ev2 (H : Hyp Z a0) : (Jvm.Term.static "com/example/orderwire/orderwire/engine/TimeInForce" "GTD" "Lcom/example/orderwire/orderwire/engine/TimeInForce;").eval a0 Z none [] Z = some (.ref (ad2 Z a0)) := own_ad (exa_v (n2 H))
theorem s2 (H : Hyp Z a0) : Sta Z Z.heap "com/example/orderwire/orderwire/engine/TimeInForce" "GTD" "Lcom/example/orderwire/orderwire/engine/TimeInForce;" (.ref (ad2 Z a0)) := Sta.start (ev2 H) (Or.inr ⟨(w4 H), (w10 H)⟩)
def ad3 (Z : State) (a0 : Array Value) : Addr := adOf "com/example/orderwire/orderwire/engine/TimeInForce" "IOC" "Lcom/example/orderwire/orderwire/engine/TimeInForce;" Z a0
theorem ev3 (H : Hyp Z a0) : (Jvm.Term.static "com/example/orderwire/orderwire/engine/TimeInForce" "IOC" "Lcom/example/orderwire/orderwire/engine/TimeInForce;").eval a0 Z none [] Z = some (.ref (ad3 Z a0)) := own_ad (exa_v (n3 H))
theorem s3 (H : Hyp Z a0) : Sta Z Z.heap "com/example/orderwire/orderwire/engine/TimeInForce" "IOC" "Lcom/example/orderwire/orderwire/engine/TimeInForce;" (.ref (ad3 Z a0)) := Sta.start (ev3 H) (Or.inr ⟨(w4 H), (w12 H)⟩)
def ad4 (Z : State) (a0 : Array Value) : Addr := adOf "com/example/orderwire/orderwire/engine/TimeInForce" "FOK" "Lcom/example/orderwire/orderwire/engine/TimeInForce;" Z a0
theorem ev4 (H : Hyp Z a0) : (Jvm.Term.static "com/example/orderwire/orderwire/engine/TimeInForce" "FOK" "Lcom/example/orderwire/orderwire/engine/TimeInForce;").eval a0 Z none [] Z = some (.ref (ad4 Z a0)) := own_ad (exa_v (n4 H))
theorem s4 (H : Hyp Z a0) : Sta Z Z.heap "com/example/orderwire/orderwire/engine/TimeInForce" "FOK" "Lcom/example/orderwire/orderwire/engine/TimeInForce;" (.ref (ad4 Z a0)) := Sta.start (ev4 H) (Or.inr ⟨(w4 H), (w14 H)⟩)
theorem x0 (H : Hyp Z a0) : Exa Z Z.heap (ad0 Z a0) "com/example/orderwire/orderwire/engine/TimeInForce" := Exa.start (ev0 H) (n0 H)
theorem x1 (H : Hyp Z a0) : Exa Z Z.heap (ad1 Z a0) "com/example/orderwire/orderwire/engine/TimeInForce" := Exa.start (ev1 H) (n1 H)
theorem x2 (H : Hyp Z a0) : Exa Z Z.heap (ad2 Z a0) "com/example/orderwire/orderwire/engine/TimeInForce" := Exa.start (ev2 H) (n2 H)
theorem x3 (H : Hyp Z a0) : Exa Z Z.heap (ad3 Z a0) "com/example/orderwire/orderwire/engine/TimeInForce" := Exa.start (ev3 H) (n3 H)
theorem x4 (H : Hyp Z a0) : Exa Z Z.heap (ad4 Z a0) "com/example/orderwire/orderwire/engine/TimeInForce" := Exa.start (ev4 H) (n4 H)
theorem f0_ordinal (H : Hyp Z a0) : Fld Z Z.heap (ad0 Z a0) "java/lang/Enum" "ordinal" "I" (.int (0 : Int32)) := Fld.start ((fld_at (ev0 H)).symm.trans (own_eqint (n5 H)))
theorem f3_ordinal (H : Hyp Z a0) : Fld Z Z.heap (ad3 Z a0) "java/lang/Enum" "ordinal" "I" (.int (3 : Int32)) := Fld.start ((fld_at (ev3 H)).symm.trans (own_eqint (n6 H)))
theorem f4_ordinal (H : Hyp Z a0) : Fld Z Z.heap (ad4 Z a0) "java/lang/Enum" "ordinal" "I" (.int (4 : Int32)) := Fld.start ((fld_at (ev4 H)).symm.trans (own_eqint (n7 H)))
theorem f1_ordinal (H : Hyp Z a0) : Fld Z Z.heap (ad1 Z a0) "java/lang/Enum" "ordinal" "I" (.int (1 : Int32)) := Fld.start ((fld_at (ev1 H)).symm.trans (own_eqint (n8 H)))
theorem f2_ordinal (H : Hyp Z a0) : Fld Z Z.heap (ad2 Z a0) "java/lang/Enum" "ordinal" "I" (.int (2 : Int32)) := Fld.start ((fld_at (ev2 H)).symm.trans (own_eqint (n9 H)))
end Facts
theorem d1_0 : decode prog_57_method_4_code 0 = .ok (.aload_n 0, 1) := by decide +kernel
theorem d1_1 : decode prog_57_method_4_code 1 = .ok (.getstatic 13, 3) := by decide +kernel
theorem d1_4 : decode prog_57_method_4_code 4 = .ok (.if_acmp .eq 14, 3) := by decide +kernel
theorem d1_7 : decode prog_57_method_4_code 7 = .ok (.aload_n 0, 1) := by decide +kernel
theorem d1_8 : decode prog_57_method_4_code 8 = .ok (.getstatic 16, 3) := by decide +kernel
theorem d1_11 : decode prog_57_method_4_code 11 = .ok (.if_acmp .eq 7, 3) := by decide +kernel
theorem d1_14 : decode prog_57_method_4_code 14 = .ok (.iconst 1, 1) := by decide +kernel
theorem d1_15 : decode prog_57_method_4_code 15 = .ok (.goto 4, 3) := by decide +kernel
theorem d1_18 : decode prog_57_method_4_code 18 = .ok (.iconst 0, 1) := by decide +kernel
theorem d1_19 : decode prog_57_method_4_code 19 = .ok (.ireturn, 1) := by decide +kernel
theorem pd_0 : parseMethodDescriptor "()Z" = some ⟨[], some .boolean⟩ := by decide +kernel
theorem pn_com_example_orderwire_orderwire_engine_TimeInForce : plainName "com/example/orderwire/orderwire/engine/TimeInForce" = true := by first | (simp [plainName, overriddenIn]; done) | decide +kernel
theorem pn_com_example_orderwire_orderwire_engine_TimeInForceRestsPinLaw : plainName "com/example/orderwire/orderwire/engine/TimeInForceRestsPinLaw" = true := by first | (simp [plainName, overriddenIn]; done) | decide +kernel
theorem ef_0 (m : MethodId) (x0 : Addr) : entryFrame m #[(.ref x0)] 1 = mkF m 0 #[.val (.ref x0)] [] := by first | (simp [entryFrame, mkF, argsToLocals, Value.category]; done) | rfl
theorem ef_1 (m : MethodId) (x0 : Int32) : entryFrame m #[(.int x0)] maxLocals = mkF m 0 #[.val (.int x0), .unset, .unset, .unset] [] := by first | (simp [entryFrame, mkF, argsToLocals, Value.category, maxLocals]; done) | rfl
set_option maxRecDepth 65536 in
set_option maxHeartbeats 40000000 in
theorem rm1_0 (l : Launch) {Z : State} {a0 : Array Value} (H : Hyp Z a0) (h0 : Heap) (Ol : Old Z Z.heap.size h0) :
    Mt l Z (⟨"com/example/orderwire/orderwire/engine/TimeInForce", "rests", "()Z"⟩ : MethodName) prog_57_method_4_code 1 (some .boolean) [] ({ frames := 0, cells := 0, slots := 0, locals := 0 } : Room) #[(.ref (ad0 Z a0))] h0 (fun v h L => (v = some (.int (1 : Int32)) ∧ Fr Z.heap.size L ∧ h = h0)) := by
  refine g_body (plainFor_of_name pn_com_example_orderwire_orderwire_engine_TimeInForce) ?_
  intro p e s m below meth c T0 K X0 e0
  refine g_entry (ef_0 m (ad0 Z a0)) ?_
  have N0 : Fr Z.heap.size [] := Fr.nil _
  have Ol0 := Ol
  have Kp0 : Keep h0 h0 [] := Keep.refl h0 _
  refine g_aloadN X0 K (q := 1) d1_0 rfl rfl rfl ?_
  refine g_gets X0 K (q := 4) (w21 H) e0 ((s3 H).ext Ol0.2) d1_1 rfl ?_
  intro T1 X1 e1
  refine g_ac X1 K (q := 7) (same := false) d1_4 rfl rfl (decide_eq_false fun q => (Fld.ne (f0_ordinal H) (f3_ordinal H) (by simp)) (Value.ref.inj q)) (by decide) (by decide) ?_
  refine g_aloadN X1 K (q := 8) d1_7 rfl rfl rfl ?_
  refine g_gets X1 K (q := 11) (w22 H) e1 ((s4 H).ext Ol0.2) d1_8 rfl ?_
  intro T2 X2 e2
  refine g_ac X2 K (q := 14) (same := false) d1_11 rfl rfl (decide_eq_false fun q => (Fld.ne (f0_ordinal H) (f4_ordinal H) (by simp)) (Value.ref.inj q)) (by decide) (by decide) ?_
  refine g_iconst X2 K (q := 15) (v := (1 : Int32)) d1_14 (by decide) rfl ?_
  refine g_goto X2 K (q := 19) d1_15 (by decide) (by decide) ?_
  refine g_nret X2 K (by simp) (z' := (1 : Int32)) (by decide) d1_19 (by decide) (by decide) ?_
  exact ⟨rfl, N0, e2⟩
set_option maxRecDepth 65536 in
set_option maxHeartbeats 40000000 in
theorem rm1_1 (l : Launch) {Z : State} {a0 : Array Value} (H : Hyp Z a0) (h0 : Heap) (Ol : Old Z Z.heap.size h0) :
    Mt l Z (⟨"com/example/orderwire/orderwire/engine/TimeInForce", "rests", "()Z"⟩ : MethodName) prog_57_method_4_code 1 (some .boolean) [] ({ frames := 0, cells := 0, slots := 0, locals := 0 } : Room) #[(.ref (ad1 Z a0))] h0 (fun v h L => (v = some (.int (1 : Int32)) ∧ Fr Z.heap.size L ∧ h = h0)) := by
  refine g_body (plainFor_of_name pn_com_example_orderwire_orderwire_engine_TimeInForce) ?_
  intro p e s m below meth c T0 K X0 e0
  refine g_entry (ef_0 m (ad1 Z a0)) ?_
  have N0 : Fr Z.heap.size [] := Fr.nil _
  have Ol0 := Ol
  have Kp0 : Keep h0 h0 [] := Keep.refl h0 _
  refine g_aloadN X0 K (q := 1) d1_0 rfl rfl rfl ?_
  refine g_gets X0 K (q := 4) (w21 H) e0 ((s3 H).ext Ol0.2) d1_1 rfl ?_
  intro T1 X1 e1
  refine g_ac X1 K (q := 7) (same := false) d1_4 rfl rfl (decide_eq_false fun q => (Fld.ne (f1_ordinal H) (f3_ordinal H) (by simp)) (Value.ref.inj q)) (by decide) (by decide) ?_
  refine g_aloadN X1 K (q := 8) d1_7 rfl rfl rfl ?_
  refine g_gets X1 K (q := 11) (w22 H) e1 ((s4 H).ext Ol0.2) d1_8 rfl ?_
  intro T2 X2 e2
  refine g_ac X2 K (q := 14) (same := false) d1_11 rfl rfl (decide_eq_false fun q => (Fld.ne (f1_ordinal H) (f4_ordinal H) (by simp)) (Value.ref.inj q)) (by decide) (by decide) ?_
  refine g_iconst X2 K (q := 15) (v := (1 : Int32)) d1_14 (by decide) rfl ?_
  refine g_goto X2 K (q := 19) d1_15 (by decide) (by decide) ?_
  refine g_nret X2 K (by simp) (z' := (1 : Int32)) (by decide) d1_19 (by decide) (by decide) ?_
  exact ⟨rfl, N0, e2⟩
set_option maxRecDepth 65536 in
set_option maxHeartbeats 40000000 in
theorem rm1_2 (l : Launch) {Z : State} {a0 : Array Value} (H : Hyp Z a0) (h0 : Heap) (Ol : Old Z Z.heap.size h0) :
    Mt l Z (⟨"com/example/orderwire/orderwire/engine/TimeInForce", "rests", "()Z"⟩ : MethodName) prog_57_method_4_code 1 (some .boolean) [] ({ frames := 0, cells := 0, slots := 0, locals := 0 } : Room) #[(.ref (ad2 Z a0))] h0 (fun v h L => (v = some (.int (1 : Int32)) ∧ Fr Z.heap.size L ∧ h = h0)) := by
  refine g_body (plainFor_of_name pn_com_example_orderwire_orderwire_engine_TimeInForce) ?_
  intro p e s m below meth c T0 K X0 e0
  refine g_entry (ef_0 m (ad2 Z a0)) ?_
  have N0 : Fr Z.heap.size [] := Fr.nil _
  have Ol0 := Ol
  have Kp0 : Keep h0 h0 [] := Keep.refl h0 _
  refine g_aloadN X0 K (q := 1) d1_0 rfl rfl rfl ?_
  refine g_gets X0 K (q := 4) (w21 H) e0 ((s3 H).ext Ol0.2) d1_1 rfl ?_
  intro T1 X1 e1
  refine g_ac X1 K (q := 7) (same := false) d1_4 rfl rfl (decide_eq_false fun q => (Fld.ne (f2_ordinal H) (f3_ordinal H) (by simp)) (Value.ref.inj q)) (by decide) (by decide) ?_
  refine g_aloadN X1 K (q := 8) d1_7 rfl rfl rfl ?_
  refine g_gets X1 K (q := 11) (w22 H) e1 ((s4 H).ext Ol0.2) d1_8 rfl ?_
  intro T2 X2 e2
  refine g_ac X2 K (q := 14) (same := false) d1_11 rfl rfl (decide_eq_false fun q => (Fld.ne (f2_ordinal H) (f4_ordinal H) (by simp)) (Value.ref.inj q)) (by decide) (by decide) ?_
  refine g_iconst X2 K (q := 15) (v := (1 : Int32)) d1_14 (by decide) rfl ?_
  refine g_goto X2 K (q := 19) d1_15 (by decide) (by decide) ?_
  refine g_nret X2 K (by simp) (z' := (1 : Int32)) (by decide) d1_19 (by decide) (by decide) ?_
  exact ⟨rfl, N0, e2⟩
set_option maxRecDepth 65536 in
set_option maxHeartbeats 40000000 in
theorem rm1_3 (l : Launch) {Z : State} {a0 : Array Value} (H : Hyp Z a0) (h0 : Heap) (Ol : Old Z Z.heap.size h0) :
    Mt l Z (⟨"com/example/orderwire/orderwire/engine/TimeInForce", "rests", "()Z"⟩ : MethodName) prog_57_method_4_code 1 (some .boolean) [] ({ frames := 0, cells := 0, slots := 0, locals := 0 } : Room) #[(.ref (ad3 Z a0))] h0 (fun v h L => (v = some (.int (0 : Int32)) ∧ Fr Z.heap.size L ∧ h = h0)) := by
  refine g_body (plainFor_of_name pn_com_example_orderwire_orderwire_engine_TimeInForce) ?_
  intro p e s m below meth c T0 K X0 e0
  refine g_entry (ef_0 m (ad3 Z a0)) ?_
  have N0 : Fr Z.heap.size [] := Fr.nil _
  have Ol0 := Ol
  have Kp0 : Keep h0 h0 [] := Keep.refl h0 _
  refine g_aloadN X0 K (q := 1) d1_0 rfl rfl rfl ?_
  refine g_gets X0 K (q := 4) (w21 H) e0 ((s3 H).ext Ol0.2) d1_1 rfl ?_
  intro T1 X1 e1
  refine g_ac X1 K (q := 18) (same := true) d1_4 rfl rfl (decide_eq_true rfl) (by decide) (by decide) ?_
  refine g_iconst X1 K (q := 19) (v := (0 : Int32)) d1_18 (by decide) rfl ?_
  refine g_nret X1 K (by simp) (z' := (0 : Int32)) (by decide) d1_19 (by decide) (by decide) ?_
  exact ⟨rfl, N0, e1⟩
set_option maxRecDepth 65536 in
set_option maxHeartbeats 40000000 in
theorem rm1_4 (l : Launch) {Z : State} {a0 : Array Value} (H : Hyp Z a0) (h0 : Heap) (Ol : Old Z Z.heap.size h0) :
    Mt l Z (⟨"com/example/orderwire/orderwire/engine/TimeInForce", "rests", "()Z"⟩ : MethodName) prog_57_method_4_code 1 (some .boolean) [] ({ frames := 0, cells := 0, slots := 0, locals := 0 } : Room) #[(.ref (ad4 Z a0))] h0 (fun v h L => (v = some (.int (0 : Int32)) ∧ Fr Z.heap.size L ∧ h = h0)) := by
  refine g_body (plainFor_of_name pn_com_example_orderwire_orderwire_engine_TimeInForce) ?_
  intro p e s m below meth c T0 K X0 e0
  refine g_entry (ef_0 m (ad4 Z a0)) ?_
  have N0 : Fr Z.heap.size [] := Fr.nil _
  have Ol0 := Ol
  have Kp0 : Keep h0 h0 [] := Keep.refl h0 _
  refine g_aloadN X0 K (q := 1) d1_0 rfl rfl rfl ?_
  refine g_gets X0 K (q := 4) (w21 H) e0 ((s3 H).ext Ol0.2) d1_1 rfl ?_
  intro T1 X1 e1
  refine g_ac X1 K (q := 7) (same := false) d1_4 rfl rfl (decide_eq_false fun q => (Fld.ne (f4_ordinal H) (f3_ordinal H) (by simp)) (Value.ref.inj q)) (by decide) (by decide) ?_
  refine g_aloadN X1 K (q := 8) d1_7 rfl rfl rfl ?_
  refine g_gets X1 K (q := 11) (w22 H) e1 ((s4 H).ext Ol0.2) d1_8 rfl ?_
  intro T2 X2 e2
  refine g_ac X2 K (q := 18) (same := true) d1_11 rfl rfl (decide_eq_true rfl) (by decide) (by decide) ?_
  refine g_iconst X2 K (q := 19) (v := (0 : Int32)) d1_18 (by decide) rfl ?_
  refine g_nret X2 K (by simp) (z' := (0 : Int32)) (by decide) d1_19 (by decide) (by decide) ?_
  exact ⟨rfl, N0, e2⟩
set_option maxRecDepth 65536 in
set_option maxHeartbeats 40000000 in
theorem rm0 (l : Launch) {Z : State} {a0 : Array Value} (H : Hyp Z a0) (p0 : Int32) (h0 : Heap) (Ol : Old Z Z.heap.size h0) :
    Mt l Z x code maxLocals ret tables_1 room_1 #[(.int p0)] h0 (fun v h L => v = some (.int 1) ∧ Fr Z.heap.size L) := by
  refine g_body (bytes := code) (maxL := maxLocals) (ret := some .boolean) (plainFor_of_name pn_com_example_orderwire_orderwire_engine_TimeInForceRestsPinLaw) ?_
  intro p e s m below meth c T0 K X0 e0
  refine g_entry (ef_1 m p0) ?_
  have N0 : Fr Z.heap.size [] := Fr.nil _
  have Ol0 : Old Z Z.heap.size h0 := Ol
  refine g_iloadN X0 K (q := 1) at_0 rfl rfl ?_
  refine g_ldc X0 K (q := 3) (w0 H) at_1 rfl ?_
  refine g_iand X0 K (q := 4) at_3 rfl rfl ?_
  refine g_iconst X0 K (q := 5) (v := (5 : Int32)) at_4 (by decide) rfl ?_
  rcases own_sp5 p0 with hs1 | hs1 | hs1 | hs1 | hs1
  · refine g_irem X0 K (q := 6) (z := (0 : Int32)) at_5 (by decide) hs1 rfl ?_
    refine g_istoreN X0 K (q := 7) (L' := #[.val (.int p0), .val (.int (0 : Int32)), .unset, .unset]) at_6 rfl rfl ?_
    refine g_iconst X0 K (q := 8) (v := (5 : Int32)) at_7 (by decide) rfl ?_
    refine g_newr X0 K (q := 11) (cap := 5) (vs := [.null, .null, .null, .null, .null]) (w1 H) (w2 H) e0 at_8 (by decide) (by decide) rfl (by decide) (by decide) (by decide) rfl ?_
    intro T1 h1 b1 kA1 X1 e1 E1 z1 A1 O1
    have ge1 : Z.heap.size ≤ b1 := Nat.le_trans Ol0.2.1 (Nat.le_of_eq z1)
    have Ol1 := Ol0.ext E1
    refine g_dup X1 K (q := 12) at_11 rfl rfl ?_
    refine g_iconst X1 K (q := 13) (v := (0 : Int32)) at_12 (by decide) rfl ?_
    refine g_gets X1 K (q := 16) (w3 H) e1 ((s0 H).ext Ol1.2) at_13 rfl ?_
    intro T2 X2 e2
    refine g_aast X2 K (q := 17) (vs' := [(.ref (ad0 Z a0)), .null, .null, .null, .null]) e2 A1 (Or.inr ⟨_, rfl, O1, (Ins.self ((x0 H).ext Ol1.2))⟩) (by decide) (Nat.le_of_ble_eq_true rfl) rfl at_16 rfl ?_
    intro T3 h3 X3 e3 W3 F3
    have N3 := Fr.snoc X3 N0 ge1
    have Ol3 := Ol1.wr W3 ge1
    refine g_dup X3 K (q := 18) at_17 rfl rfl ?_
    refine g_iconst X3 K (q := 19) (v := (1 : Int32)) at_18 (by decide) rfl ?_
    refine g_gets X3 K (q := 22) (w7 H) e3 ((s1 H).ext Ol3.2) at_19 rfl ?_
    intro T4 X4 e4
    refine g_aast X4 K (q := 23) (vs' := [(.ref (ad0 Z a0)), (.ref (ad1 Z a0)), .null, .null, .null]) e4 F3 (Or.inr ⟨_, rfl, O1, (Ins.self ((x1 H).ext Ol3.2))⟩) (by decide) (Nat.le_of_ble_eq_true rfl) rfl at_22 rfl ?_
    intro T5 h5 X5 e5 W5 F5
    have N5 := Fr.snoc X5 N3 ge1
    have Ol5 := Ol3.wr W5 ge1
    refine g_dup X5 K (q := 24) at_23 rfl rfl ?_
    refine g_iconst X5 K (q := 25) (v := (2 : Int32)) at_24 (by decide) rfl ?_
    refine g_gets X5 K (q := 28) (w9 H) e5 ((s2 H).ext Ol5.2) at_25 rfl ?_
    intro T6 X6 e6
    refine g_aast X6 K (q := 29) (vs' := [(.ref (ad0 Z a0)), (.ref (ad1 Z a0)), (.ref (ad2 Z a0)), .null, .null]) e6 F5 (Or.inr ⟨_, rfl, O1, (Ins.self ((x2 H).ext Ol5.2))⟩) (by decide) (Nat.le_of_ble_eq_true rfl) rfl at_28 rfl ?_
    intro T7 h7 X7 e7 W7 F7
    have N7 := Fr.snoc X7 N5 ge1
    have Ol7 := Ol5.wr W7 ge1
    refine g_dup X7 K (q := 30) at_29 rfl rfl ?_
    refine g_iconst X7 K (q := 31) (v := (3 : Int32)) at_30 (by decide) rfl ?_
    refine g_gets X7 K (q := 34) (w11 H) e7 ((s3 H).ext Ol7.2) at_31 rfl ?_
    intro T8 X8 e8
    refine g_aast X8 K (q := 35) (vs' := [(.ref (ad0 Z a0)), (.ref (ad1 Z a0)), (.ref (ad2 Z a0)), (.ref (ad3 Z a0)), .null]) e8 F7 (Or.inr ⟨_, rfl, O1, (Ins.self ((x3 H).ext Ol7.2))⟩) (by decide) (Nat.le_of_ble_eq_true rfl) rfl at_34 rfl ?_
    intro T9 h9 X9 e9 W9 F9
    have N9 := Fr.snoc X9 N7 ge1
    have Ol9 := Ol7.wr W9 ge1
    refine g_dup X9 K (q := 36) at_35 rfl rfl ?_
    refine g_iconst X9 K (q := 37) (v := (4 : Int32)) at_36 (by decide) rfl ?_
    refine g_gets X9 K (q := 40) (w13 H) e9 ((s4 H).ext Ol9.2) at_37 rfl ?_
    intro T10 X10 e10
    refine g_aast X10 K (q := 41) (vs' := [(.ref (ad0 Z a0)), (.ref (ad1 Z a0)), (.ref (ad2 Z a0)), (.ref (ad3 Z a0)), (.ref (ad4 Z a0))]) e10 F9 (Or.inr ⟨_, rfl, O1, (Ins.self ((x4 H).ext Ol9.2))⟩) (by decide) (Nat.le_of_ble_eq_true rfl) rfl at_40 rfl ?_
    intro T11 h11 X11 e11 W11 F11
    have N11 := Fr.snoc X11 N9 ge1
    have Ol11 := Ol9.wr W11 ge1
    refine g_astoreN X11 K (q := 42) (L' := #[.val (.int p0), .val (.int (0 : Int32)), .val (.ref b1), .unset]) at_41 rfl rfl rfl ?_
    refine g_iconst X11 K (q := 43) (v := (5 : Int32)) at_42 (by decide) rfl ?_
    refine g_newp X11 K (q := 45) (cap := 5) (ty := .boolean) (vs := [(.int (0 : Int32)), (.int (0 : Int32)), (.int (0 : Int32)), (.int (0 : Int32)), (.int (0 : Int32))]) (w15 H) rfl e11 at_43 (by decide) (by decide) rfl (by decide) (by decide) (by decide) rfl ?_
    intro T12 h12 b12 kA12 X12 e12 E12 z12 A12
    have ge12 : Z.heap.size ≤ b12 := Nat.le_trans Ol11.2.1 (Nat.le_of_eq z12)
    have lk12 : b1 < b12 := Nat.lt_of_lt_of_eq F11.lt z12
    have Ol12 := Ol11.ext E12
    refine g_dup X12 K (q := 46) at_45 rfl rfl ?_
    refine g_iconst X12 K (q := 47) (v := (0 : Int32)) at_46 (by decide) rfl ?_
    refine g_iconst X12 K (q := 48) (v := (1 : Int32)) at_47 (by decide) rfl ?_
    refine g_zast X12 K (q := 49) (z := (1 : Int32)) (vs' := [(.int (1 : Int32)), (.int (0 : Int32)), (.int (0 : Int32)), (.int (0 : Int32)), (.int (0 : Int32))]) e12 A12 (by decide) (Nat.le_of_ble_eq_true rfl) (by decide) rfl at_48 rfl ?_
    intro T13 h13 X13 e13 W13 F13
    have N13 := Fr.snoc X13 N11 ge12
    have Ol13 := Ol12.wr W13 ge12
    refine g_dup X13 K (q := 50) at_49 rfl rfl ?_
    refine g_iconst X13 K (q := 51) (v := (1 : Int32)) at_50 (by decide) rfl ?_
    refine g_iconst X13 K (q := 52) (v := (1 : Int32)) at_51 (by decide) rfl ?_
    refine g_zast X13 K (q := 53) (z := (1 : Int32)) (vs' := [(.int (1 : Int32)), (.int (1 : Int32)), (.int (0 : Int32)), (.int (0 : Int32)), (.int (0 : Int32))]) e13 F13 (by decide) (Nat.le_of_ble_eq_true rfl) (by decide) rfl at_52 rfl ?_
    intro T14 h14 X14 e14 W14 F14
    have N14 := Fr.snoc X14 N13 ge12
    have Ol14 := Ol13.wr W14 ge12
    refine g_dup X14 K (q := 54) at_53 rfl rfl ?_
    refine g_iconst X14 K (q := 55) (v := (2 : Int32)) at_54 (by decide) rfl ?_
    refine g_iconst X14 K (q := 56) (v := (1 : Int32)) at_55 (by decide) rfl ?_
    refine g_zast X14 K (q := 57) (z := (1 : Int32)) (vs' := [(.int (1 : Int32)), (.int (1 : Int32)), (.int (1 : Int32)), (.int (0 : Int32)), (.int (0 : Int32))]) e14 F14 (by decide) (Nat.le_of_ble_eq_true rfl) (by decide) rfl at_56 rfl ?_
    intro T15 h15 X15 e15 W15 F15
    have N15 := Fr.snoc X15 N14 ge12
    have Ol15 := Ol14.wr W15 ge12
    refine g_dup X15 K (q := 58) at_57 rfl rfl ?_
    refine g_iconst X15 K (q := 59) (v := (3 : Int32)) at_58 (by decide) rfl ?_
    refine g_iconst X15 K (q := 60) (v := (0 : Int32)) at_59 (by decide) rfl ?_
    refine g_zast X15 K (q := 61) (z := (0 : Int32)) (vs' := [(.int (1 : Int32)), (.int (1 : Int32)), (.int (1 : Int32)), (.int (0 : Int32)), (.int (0 : Int32))]) e15 F15 (by decide) (Nat.le_of_ble_eq_true rfl) (by decide) rfl at_60 rfl ?_
    intro T16 h16 X16 e16 W16 F16
    have N16 := Fr.snoc X16 N15 ge12
    have Ol16 := Ol15.wr W16 ge12
    refine g_dup X16 K (q := 62) at_61 rfl rfl ?_
    refine g_iconst X16 K (q := 63) (v := (4 : Int32)) at_62 (by decide) rfl ?_
    refine g_iconst X16 K (q := 64) (v := (0 : Int32)) at_63 (by decide) rfl ?_
    refine g_zast X16 K (q := 65) (z := (0 : Int32)) (vs' := [(.int (1 : Int32)), (.int (1 : Int32)), (.int (1 : Int32)), (.int (0 : Int32)), (.int (0 : Int32))]) e16 F16 (by decide) (Nat.le_of_ble_eq_true rfl) (by decide) rfl at_64 rfl ?_
    intro T17 h17 X17 e17 W17 F17
    have N17 := Fr.snoc X17 N16 ge12
    have Ol17 := Ol16.wr W17 ge12
    refine g_astoreN X17 K (q := 66) (L' := #[.val (.int p0), .val (.int (0 : Int32)), .val (.ref b1), .val (.ref b12)]) at_65 rfl rfl rfl ?_
    refine g_aloadN X17 K (q := 67) at_66 rfl rfl rfl ?_
    refine g_iloadN X17 K (q := 68) at_67 rfl rfl ?_
    have ne1 : b1 ≠ b12 := (Nat.ne_of_lt lk12)
    have f1 := ((((((F11.ext E12).other W13 ne1).other W14 ne1).other W15 ne1).other W16 ne1).other W17 ne1)
    refine g_aald X17 K (q := 69) (v := (.ref (ad0 Z a0))) e17 f1 rfl (by decide) rfl at_68 rfl ?_
    refine g_virtual X17 K (q := 72) (W := 0) (a := (ad0 Z a0)) (w16 H) (w17 H) (nf_self K (w19 H)) (w19 H) (w18 H) (w4 H) (w20 H) (by decide) (rm1_0 l H h17 Ol17) e17 ((x0 H).ext Ol17.2) rfl (argsL := []) (rest := []) (lenOf pd_0 rfl) rfl rfl (Nat.le_of_eq rfl) at_69 (by decide) (by decide) (by decide) (by decide) rfl ?_
    rintro T18 v18 L18 X18 ⟨rfl, N18q, e18⟩
    have N18 := Fr.app N17 N18q
    show Go p e below _ T18 (mkF m 72 #[.val (.int p0), .val (.int (0 : Int32)), .val (.ref b1), .val (.ref b12)] [(.int (1 : Int32))])
    refine g_aloadN X18 K (q := 73) at_72 rfl rfl rfl ?_
    refine g_iloadN X18 K (q := 74) at_73 rfl rfl ?_
    refine g_zald X18 K (q := 75) (v := (.int (1 : Int32))) e18 F17 (by decide) rfl at_74 rfl ?_
    refine g_icN X18 K (q := 78) at_75 (by decide) rfl ?_
    refine g_iconst X18 K (q := 79) (v := (1 : Int32)) at_78 (by decide) rfl ?_
    refine g_goto X18 K (q := 83) at_79 (by decide) (by decide) ?_
    refine g_nret X18 K (by simp) (z' := (1 : Int32)) (by decide) at_83 (by decide) (by decide) ?_
    exact ⟨rfl, N18⟩
  · refine g_irem X0 K (q := 6) (z := (1 : Int32)) at_5 (by decide) hs1 rfl ?_
    refine g_istoreN X0 K (q := 7) (L' := #[.val (.int p0), .val (.int (1 : Int32)), .unset, .unset]) at_6 rfl rfl ?_
    refine g_iconst X0 K (q := 8) (v := (5 : Int32)) at_7 (by decide) rfl ?_
    refine g_newr X0 K (q := 11) (cap := 5) (vs := [.null, .null, .null, .null, .null]) (w1 H) (w2 H) e0 at_8 (by decide) (by decide) rfl (by decide) (by decide) (by decide) rfl ?_
    intro T19 h19 b19 kA19 X19 e19 E19 z19 A19 O19
    have ge19 : Z.heap.size ≤ b19 := Nat.le_trans Ol0.2.1 (Nat.le_of_eq z19)
    have Ol19 := Ol0.ext E19
    refine g_dup X19 K (q := 12) at_11 rfl rfl ?_
    refine g_iconst X19 K (q := 13) (v := (0 : Int32)) at_12 (by decide) rfl ?_
    refine g_gets X19 K (q := 16) (w3 H) e19 ((s0 H).ext Ol19.2) at_13 rfl ?_
    intro T20 X20 e20
    refine g_aast X20 K (q := 17) (vs' := [(.ref (ad0 Z a0)), .null, .null, .null, .null]) e20 A19 (Or.inr ⟨_, rfl, O19, (Ins.self ((x0 H).ext Ol19.2))⟩) (by decide) (Nat.le_of_ble_eq_true rfl) rfl at_16 rfl ?_
    intro T21 h21 X21 e21 W21 F21
    have N21 := Fr.snoc X21 N0 ge19
    have Ol21 := Ol19.wr W21 ge19
    refine g_dup X21 K (q := 18) at_17 rfl rfl ?_
    refine g_iconst X21 K (q := 19) (v := (1 : Int32)) at_18 (by decide) rfl ?_
    refine g_gets X21 K (q := 22) (w7 H) e21 ((s1 H).ext Ol21.2) at_19 rfl ?_
    intro T22 X22 e22
    refine g_aast X22 K (q := 23) (vs' := [(.ref (ad0 Z a0)), (.ref (ad1 Z a0)), .null, .null, .null]) e22 F21 (Or.inr ⟨_, rfl, O19, (Ins.self ((x1 H).ext Ol21.2))⟩) (by decide) (Nat.le_of_ble_eq_true rfl) rfl at_22 rfl ?_
    intro T23 h23 X23 e23 W23 F23
    have N23 := Fr.snoc X23 N21 ge19
    have Ol23 := Ol21.wr W23 ge19
    refine g_dup X23 K (q := 24) at_23 rfl rfl ?_
    refine g_iconst X23 K (q := 25) (v := (2 : Int32)) at_24 (by decide) rfl ?_
    refine g_gets X23 K (q := 28) (w9 H) e23 ((s2 H).ext Ol23.2) at_25 rfl ?_
    intro T24 X24 e24
    refine g_aast X24 K (q := 29) (vs' := [(.ref (ad0 Z a0)), (.ref (ad1 Z a0)), (.ref (ad2 Z a0)), .null, .null]) e24 F23 (Or.inr ⟨_, rfl, O19, (Ins.self ((x2 H).ext Ol23.2))⟩) (by decide) (Nat.le_of_ble_eq_true rfl) rfl at_28 rfl ?_
    intro T25 h25 X25 e25 W25 F25
    have N25 := Fr.snoc X25 N23 ge19
    have Ol25 := Ol23.wr W25 ge19
    refine g_dup X25 K (q := 30) at_29 rfl rfl ?_
    refine g_iconst X25 K (q := 31) (v := (3 : Int32)) at_30 (by decide) rfl ?_
    refine g_gets X25 K (q := 34) (w11 H) e25 ((s3 H).ext Ol25.2) at_31 rfl ?_
    intro T26 X26 e26
    refine g_aast X26 K (q := 35) (vs' := [(.ref (ad0 Z a0)), (.ref (ad1 Z a0)), (.ref (ad2 Z a0)), (.ref (ad3 Z a0)), .null]) e26 F25 (Or.inr ⟨_, rfl, O19, (Ins.self ((x3 H).ext Ol25.2))⟩) (by decide) (Nat.le_of_ble_eq_true rfl) rfl at_34 rfl ?_
    intro T27 h27 X27 e27 W27 F27
    have N27 := Fr.snoc X27 N25 ge19
    have Ol27 := Ol25.wr W27 ge19
    refine g_dup X27 K (q := 36) at_35 rfl rfl ?_
    refine g_iconst X27 K (q := 37) (v := (4 : Int32)) at_36 (by decide) rfl ?_
    refine g_gets X27 K (q := 40) (w13 H) e27 ((s4 H).ext Ol27.2) at_37 rfl ?_
    intro T28 X28 e28
    refine g_aast X28 K (q := 41) (vs' := [(.ref (ad0 Z a0)), (.ref (ad1 Z a0)), (.ref (ad2 Z a0)), (.ref (ad3 Z a0)), (.ref (ad4 Z a0))]) e28 F27 (Or.inr ⟨_, rfl, O19, (Ins.self ((x4 H).ext Ol27.2))⟩) (by decide) (Nat.le_of_ble_eq_true rfl) rfl at_40 rfl ?_
    intro T29 h29 X29 e29 W29 F29
    have N29 := Fr.snoc X29 N27 ge19
    have Ol29 := Ol27.wr W29 ge19
    refine g_astoreN X29 K (q := 42) (L' := #[.val (.int p0), .val (.int (1 : Int32)), .val (.ref b19), .unset]) at_41 rfl rfl rfl ?_
    refine g_iconst X29 K (q := 43) (v := (5 : Int32)) at_42 (by decide) rfl ?_
    refine g_newp X29 K (q := 45) (cap := 5) (ty := .boolean) (vs := [(.int (0 : Int32)), (.int (0 : Int32)), (.int (0 : Int32)), (.int (0 : Int32)), (.int (0 : Int32))]) (w15 H) rfl e29 at_43 (by decide) (by decide) rfl (by decide) (by decide) (by decide) rfl ?_
    intro T30 h30 b30 kA30 X30 e30 E30 z30 A30
    have ge30 : Z.heap.size ≤ b30 := Nat.le_trans Ol29.2.1 (Nat.le_of_eq z30)
    have lk30 : b19 < b30 := Nat.lt_of_lt_of_eq F29.lt z30
    have Ol30 := Ol29.ext E30
    refine g_dup X30 K (q := 46) at_45 rfl rfl ?_
    refine g_iconst X30 K (q := 47) (v := (0 : Int32)) at_46 (by decide) rfl ?_
    refine g_iconst X30 K (q := 48) (v := (1 : Int32)) at_47 (by decide) rfl ?_
    refine g_zast X30 K (q := 49) (z := (1 : Int32)) (vs' := [(.int (1 : Int32)), (.int (0 : Int32)), (.int (0 : Int32)), (.int (0 : Int32)), (.int (0 : Int32))]) e30 A30 (by decide) (Nat.le_of_ble_eq_true rfl) (by decide) rfl at_48 rfl ?_
    intro T31 h31 X31 e31 W31 F31
    have N31 := Fr.snoc X31 N29 ge30
    have Ol31 := Ol30.wr W31 ge30
    refine g_dup X31 K (q := 50) at_49 rfl rfl ?_
    refine g_iconst X31 K (q := 51) (v := (1 : Int32)) at_50 (by decide) rfl ?_
    refine g_iconst X31 K (q := 52) (v := (1 : Int32)) at_51 (by decide) rfl ?_
    refine g_zast X31 K (q := 53) (z := (1 : Int32)) (vs' := [(.int (1 : Int32)), (.int (1 : Int32)), (.int (0 : Int32)), (.int (0 : Int32)), (.int (0 : Int32))]) e31 F31 (by decide) (Nat.le_of_ble_eq_true rfl) (by decide) rfl at_52 rfl ?_
    intro T32 h32 X32 e32 W32 F32
    have N32 := Fr.snoc X32 N31 ge30
    have Ol32 := Ol31.wr W32 ge30
    refine g_dup X32 K (q := 54) at_53 rfl rfl ?_
    refine g_iconst X32 K (q := 55) (v := (2 : Int32)) at_54 (by decide) rfl ?_
    refine g_iconst X32 K (q := 56) (v := (1 : Int32)) at_55 (by decide) rfl ?_
    refine g_zast X32 K (q := 57) (z := (1 : Int32)) (vs' := [(.int (1 : Int32)), (.int (1 : Int32)), (.int (1 : Int32)), (.int (0 : Int32)), (.int (0 : Int32))]) e32 F32 (by decide) (Nat.le_of_ble_eq_true rfl) (by decide) rfl at_56 rfl ?_
    intro T33 h33 X33 e33 W33 F33
    have N33 := Fr.snoc X33 N32 ge30
    have Ol33 := Ol32.wr W33 ge30
    refine g_dup X33 K (q := 58) at_57 rfl rfl ?_
    refine g_iconst X33 K (q := 59) (v := (3 : Int32)) at_58 (by decide) rfl ?_
    refine g_iconst X33 K (q := 60) (v := (0 : Int32)) at_59 (by decide) rfl ?_
    refine g_zast X33 K (q := 61) (z := (0 : Int32)) (vs' := [(.int (1 : Int32)), (.int (1 : Int32)), (.int (1 : Int32)), (.int (0 : Int32)), (.int (0 : Int32))]) e33 F33 (by decide) (Nat.le_of_ble_eq_true rfl) (by decide) rfl at_60 rfl ?_
    intro T34 h34 X34 e34 W34 F34
    have N34 := Fr.snoc X34 N33 ge30
    have Ol34 := Ol33.wr W34 ge30
    refine g_dup X34 K (q := 62) at_61 rfl rfl ?_
    refine g_iconst X34 K (q := 63) (v := (4 : Int32)) at_62 (by decide) rfl ?_
    refine g_iconst X34 K (q := 64) (v := (0 : Int32)) at_63 (by decide) rfl ?_
    refine g_zast X34 K (q := 65) (z := (0 : Int32)) (vs' := [(.int (1 : Int32)), (.int (1 : Int32)), (.int (1 : Int32)), (.int (0 : Int32)), (.int (0 : Int32))]) e34 F34 (by decide) (Nat.le_of_ble_eq_true rfl) (by decide) rfl at_64 rfl ?_
    intro T35 h35 X35 e35 W35 F35
    have N35 := Fr.snoc X35 N34 ge30
    have Ol35 := Ol34.wr W35 ge30
    refine g_astoreN X35 K (q := 66) (L' := #[.val (.int p0), .val (.int (1 : Int32)), .val (.ref b19), .val (.ref b30)]) at_65 rfl rfl rfl ?_
    refine g_aloadN X35 K (q := 67) at_66 rfl rfl rfl ?_
    refine g_iloadN X35 K (q := 68) at_67 rfl rfl ?_
    have ne2 : b19 ≠ b30 := (Nat.ne_of_lt lk30)
    have f2 := ((((((F29.ext E30).other W31 ne2).other W32 ne2).other W33 ne2).other W34 ne2).other W35 ne2)
    refine g_aald X35 K (q := 69) (v := (.ref (ad1 Z a0))) e35 f2 rfl (by decide) rfl at_68 rfl ?_
    refine g_virtual X35 K (q := 72) (W := 0) (a := (ad1 Z a0)) (w16 H) (w17 H) (nf_self K (w19 H)) (w19 H) (w18 H) (w4 H) (w20 H) (by decide) (rm1_1 l H h35 Ol35) e35 ((x1 H).ext Ol35.2) rfl (argsL := []) (rest := []) (lenOf pd_0 rfl) rfl rfl (Nat.le_of_eq rfl) at_69 (by decide) (by decide) (by decide) (by decide) rfl ?_
    rintro T36 v36 L36 X36 ⟨rfl, N36q, e36⟩
    have N36 := Fr.app N35 N36q
    show Go p e below _ T36 (mkF m 72 #[.val (.int p0), .val (.int (1 : Int32)), .val (.ref b19), .val (.ref b30)] [(.int (1 : Int32))])
    refine g_aloadN X36 K (q := 73) at_72 rfl rfl rfl ?_
    refine g_iloadN X36 K (q := 74) at_73 rfl rfl ?_
    refine g_zald X36 K (q := 75) (v := (.int (1 : Int32))) e36 F35 (by decide) rfl at_74 rfl ?_
    refine g_icN X36 K (q := 78) at_75 (by decide) rfl ?_
    refine g_iconst X36 K (q := 79) (v := (1 : Int32)) at_78 (by decide) rfl ?_
    refine g_goto X36 K (q := 83) at_79 (by decide) (by decide) ?_
    refine g_nret X36 K (by simp) (z' := (1 : Int32)) (by decide) at_83 (by decide) (by decide) ?_
    exact ⟨rfl, N36⟩
  · refine g_irem X0 K (q := 6) (z := (2 : Int32)) at_5 (by decide) hs1 rfl ?_
    refine g_istoreN X0 K (q := 7) (L' := #[.val (.int p0), .val (.int (2 : Int32)), .unset, .unset]) at_6 rfl rfl ?_
    refine g_iconst X0 K (q := 8) (v := (5 : Int32)) at_7 (by decide) rfl ?_
    refine g_newr X0 K (q := 11) (cap := 5) (vs := [.null, .null, .null, .null, .null]) (w1 H) (w2 H) e0 at_8 (by decide) (by decide) rfl (by decide) (by decide) (by decide) rfl ?_
    intro T37 h37 b37 kA37 X37 e37 E37 z37 A37 O37
    have ge37 : Z.heap.size ≤ b37 := Nat.le_trans Ol0.2.1 (Nat.le_of_eq z37)
    have Ol37 := Ol0.ext E37
    refine g_dup X37 K (q := 12) at_11 rfl rfl ?_
    refine g_iconst X37 K (q := 13) (v := (0 : Int32)) at_12 (by decide) rfl ?_
    refine g_gets X37 K (q := 16) (w3 H) e37 ((s0 H).ext Ol37.2) at_13 rfl ?_
    intro T38 X38 e38
    refine g_aast X38 K (q := 17) (vs' := [(.ref (ad0 Z a0)), .null, .null, .null, .null]) e38 A37 (Or.inr ⟨_, rfl, O37, (Ins.self ((x0 H).ext Ol37.2))⟩) (by decide) (Nat.le_of_ble_eq_true rfl) rfl at_16 rfl ?_
    intro T39 h39 X39 e39 W39 F39
    have N39 := Fr.snoc X39 N0 ge37
    have Ol39 := Ol37.wr W39 ge37
    refine g_dup X39 K (q := 18) at_17 rfl rfl ?_
    refine g_iconst X39 K (q := 19) (v := (1 : Int32)) at_18 (by decide) rfl ?_
    refine g_gets X39 K (q := 22) (w7 H) e39 ((s1 H).ext Ol39.2) at_19 rfl ?_
    intro T40 X40 e40
    refine g_aast X40 K (q := 23) (vs' := [(.ref (ad0 Z a0)), (.ref (ad1 Z a0)), .null, .null, .null]) e40 F39 (Or.inr ⟨_, rfl, O37, (Ins.self ((x1 H).ext Ol39.2))⟩) (by decide) (Nat.le_of_ble_eq_true rfl) rfl at_22 rfl ?_
    intro T41 h41 X41 e41 W41 F41
    have N41 := Fr.snoc X41 N39 ge37
    have Ol41 := Ol39.wr W41 ge37
    refine g_dup X41 K (q := 24) at_23 rfl rfl ?_
    refine g_iconst X41 K (q := 25) (v := (2 : Int32)) at_24 (by decide) rfl ?_
    refine g_gets X41 K (q := 28) (w9 H) e41 ((s2 H).ext Ol41.2) at_25 rfl ?_
    intro T42 X42 e42
    refine g_aast X42 K (q := 29) (vs' := [(.ref (ad0 Z a0)), (.ref (ad1 Z a0)), (.ref (ad2 Z a0)), .null, .null]) e42 F41 (Or.inr ⟨_, rfl, O37, (Ins.self ((x2 H).ext Ol41.2))⟩) (by decide) (Nat.le_of_ble_eq_true rfl) rfl at_28 rfl ?_
    intro T43 h43 X43 e43 W43 F43
    have N43 := Fr.snoc X43 N41 ge37
    have Ol43 := Ol41.wr W43 ge37
    refine g_dup X43 K (q := 30) at_29 rfl rfl ?_
    refine g_iconst X43 K (q := 31) (v := (3 : Int32)) at_30 (by decide) rfl ?_
    refine g_gets X43 K (q := 34) (w11 H) e43 ((s3 H).ext Ol43.2) at_31 rfl ?_
    intro T44 X44 e44
    refine g_aast X44 K (q := 35) (vs' := [(.ref (ad0 Z a0)), (.ref (ad1 Z a0)), (.ref (ad2 Z a0)), (.ref (ad3 Z a0)), .null]) e44 F43 (Or.inr ⟨_, rfl, O37, (Ins.self ((x3 H).ext Ol43.2))⟩) (by decide) (Nat.le_of_ble_eq_true rfl) rfl at_34 rfl ?_
    intro T45 h45 X45 e45 W45 F45
    have N45 := Fr.snoc X45 N43 ge37
    have Ol45 := Ol43.wr W45 ge37
    refine g_dup X45 K (q := 36) at_35 rfl rfl ?_
    refine g_iconst X45 K (q := 37) (v := (4 : Int32)) at_36 (by decide) rfl ?_
    refine g_gets X45 K (q := 40) (w13 H) e45 ((s4 H).ext Ol45.2) at_37 rfl ?_
    intro T46 X46 e46
    refine g_aast X46 K (q := 41) (vs' := [(.ref (ad0 Z a0)), (.ref (ad1 Z a0)), (.ref (ad2 Z a0)), (.ref (ad3 Z a0)), (.ref (ad4 Z a0))]) e46 F45 (Or.inr ⟨_, rfl, O37, (Ins.self ((x4 H).ext Ol45.2))⟩) (by decide) (Nat.le_of_ble_eq_true rfl) rfl at_40 rfl ?_
    intro T47 h47 X47 e47 W47 F47
    have N47 := Fr.snoc X47 N45 ge37
    have Ol47 := Ol45.wr W47 ge37
    refine g_astoreN X47 K (q := 42) (L' := #[.val (.int p0), .val (.int (2 : Int32)), .val (.ref b37), .unset]) at_41 rfl rfl rfl ?_
    refine g_iconst X47 K (q := 43) (v := (5 : Int32)) at_42 (by decide) rfl ?_
    refine g_newp X47 K (q := 45) (cap := 5) (ty := .boolean) (vs := [(.int (0 : Int32)), (.int (0 : Int32)), (.int (0 : Int32)), (.int (0 : Int32)), (.int (0 : Int32))]) (w15 H) rfl e47 at_43 (by decide) (by decide) rfl (by decide) (by decide) (by decide) rfl ?_
    intro T48 h48 b48 kA48 X48 e48 E48 z48 A48
    have ge48 : Z.heap.size ≤ b48 := Nat.le_trans Ol47.2.1 (Nat.le_of_eq z48)
    have lk48 : b37 < b48 := Nat.lt_of_lt_of_eq F47.lt z48
    have Ol48 := Ol47.ext E48
    refine g_dup X48 K (q := 46) at_45 rfl rfl ?_
    refine g_iconst X48 K (q := 47) (v := (0 : Int32)) at_46 (by decide) rfl ?_
    refine g_iconst X48 K (q := 48) (v := (1 : Int32)) at_47 (by decide) rfl ?_
    refine g_zast X48 K (q := 49) (z := (1 : Int32)) (vs' := [(.int (1 : Int32)), (.int (0 : Int32)), (.int (0 : Int32)), (.int (0 : Int32)), (.int (0 : Int32))]) e48 A48 (by decide) (Nat.le_of_ble_eq_true rfl) (by decide) rfl at_48 rfl ?_
    intro T49 h49 X49 e49 W49 F49
    have N49 := Fr.snoc X49 N47 ge48
    have Ol49 := Ol48.wr W49 ge48
    refine g_dup X49 K (q := 50) at_49 rfl rfl ?_
    refine g_iconst X49 K (q := 51) (v := (1 : Int32)) at_50 (by decide) rfl ?_
    refine g_iconst X49 K (q := 52) (v := (1 : Int32)) at_51 (by decide) rfl ?_
    refine g_zast X49 K (q := 53) (z := (1 : Int32)) (vs' := [(.int (1 : Int32)), (.int (1 : Int32)), (.int (0 : Int32)), (.int (0 : Int32)), (.int (0 : Int32))]) e49 F49 (by decide) (Nat.le_of_ble_eq_true rfl) (by decide) rfl at_52 rfl ?_
    intro T50 h50 X50 e50 W50 F50
    have N50 := Fr.snoc X50 N49 ge48
    have Ol50 := Ol49.wr W50 ge48
    refine g_dup X50 K (q := 54) at_53 rfl rfl ?_
    refine g_iconst X50 K (q := 55) (v := (2 : Int32)) at_54 (by decide) rfl ?_
    refine g_iconst X50 K (q := 56) (v := (1 : Int32)) at_55 (by decide) rfl ?_
    refine g_zast X50 K (q := 57) (z := (1 : Int32)) (vs' := [(.int (1 : Int32)), (.int (1 : Int32)), (.int (1 : Int32)), (.int (0 : Int32)), (.int (0 : Int32))]) e50 F50 (by decide) (Nat.le_of_ble_eq_true rfl) (by decide) rfl at_56 rfl ?_
    intro T51 h51 X51 e51 W51 F51
    have N51 := Fr.snoc X51 N50 ge48
    have Ol51 := Ol50.wr W51 ge48
    refine g_dup X51 K (q := 58) at_57 rfl rfl ?_
    refine g_iconst X51 K (q := 59) (v := (3 : Int32)) at_58 (by decide) rfl ?_
    refine g_iconst X51 K (q := 60) (v := (0 : Int32)) at_59 (by decide) rfl ?_
    refine g_zast X51 K (q := 61) (z := (0 : Int32)) (vs' := [(.int (1 : Int32)), (.int (1 : Int32)), (.int (1 : Int32)), (.int (0 : Int32)), (.int (0 : Int32))]) e51 F51 (by decide) (Nat.le_of_ble_eq_true rfl) (by decide) rfl at_60 rfl ?_
    intro T52 h52 X52 e52 W52 F52
    have N52 := Fr.snoc X52 N51 ge48
    have Ol52 := Ol51.wr W52 ge48
    refine g_dup X52 K (q := 62) at_61 rfl rfl ?_
    refine g_iconst X52 K (q := 63) (v := (4 : Int32)) at_62 (by decide) rfl ?_
    refine g_iconst X52 K (q := 64) (v := (0 : Int32)) at_63 (by decide) rfl ?_
    refine g_zast X52 K (q := 65) (z := (0 : Int32)) (vs' := [(.int (1 : Int32)), (.int (1 : Int32)), (.int (1 : Int32)), (.int (0 : Int32)), (.int (0 : Int32))]) e52 F52 (by decide) (Nat.le_of_ble_eq_true rfl) (by decide) rfl at_64 rfl ?_
    intro T53 h53 X53 e53 W53 F53
    have N53 := Fr.snoc X53 N52 ge48
    have Ol53 := Ol52.wr W53 ge48
    refine g_astoreN X53 K (q := 66) (L' := #[.val (.int p0), .val (.int (2 : Int32)), .val (.ref b37), .val (.ref b48)]) at_65 rfl rfl rfl ?_
    refine g_aloadN X53 K (q := 67) at_66 rfl rfl rfl ?_
    refine g_iloadN X53 K (q := 68) at_67 rfl rfl ?_
    have ne3 : b37 ≠ b48 := (Nat.ne_of_lt lk48)
    have f3 := ((((((F47.ext E48).other W49 ne3).other W50 ne3).other W51 ne3).other W52 ne3).other W53 ne3)
    refine g_aald X53 K (q := 69) (v := (.ref (ad2 Z a0))) e53 f3 rfl (by decide) rfl at_68 rfl ?_
    refine g_virtual X53 K (q := 72) (W := 0) (a := (ad2 Z a0)) (w16 H) (w17 H) (nf_self K (w19 H)) (w19 H) (w18 H) (w4 H) (w20 H) (by decide) (rm1_2 l H h53 Ol53) e53 ((x2 H).ext Ol53.2) rfl (argsL := []) (rest := []) (lenOf pd_0 rfl) rfl rfl (Nat.le_of_eq rfl) at_69 (by decide) (by decide) (by decide) (by decide) rfl ?_
    rintro T54 v54 L54 X54 ⟨rfl, N54q, e54⟩
    have N54 := Fr.app N53 N54q
    show Go p e below _ T54 (mkF m 72 #[.val (.int p0), .val (.int (2 : Int32)), .val (.ref b37), .val (.ref b48)] [(.int (1 : Int32))])
    refine g_aloadN X54 K (q := 73) at_72 rfl rfl rfl ?_
    refine g_iloadN X54 K (q := 74) at_73 rfl rfl ?_
    refine g_zald X54 K (q := 75) (v := (.int (1 : Int32))) e54 F53 (by decide) rfl at_74 rfl ?_
    refine g_icN X54 K (q := 78) at_75 (by decide) rfl ?_
    refine g_iconst X54 K (q := 79) (v := (1 : Int32)) at_78 (by decide) rfl ?_
    refine g_goto X54 K (q := 83) at_79 (by decide) (by decide) ?_
    refine g_nret X54 K (by simp) (z' := (1 : Int32)) (by decide) at_83 (by decide) (by decide) ?_
    exact ⟨rfl, N54⟩
  · refine g_irem X0 K (q := 6) (z := (3 : Int32)) at_5 (by decide) hs1 rfl ?_
    refine g_istoreN X0 K (q := 7) (L' := #[.val (.int p0), .val (.int (3 : Int32)), .unset, .unset]) at_6 rfl rfl ?_
    refine g_iconst X0 K (q := 8) (v := (5 : Int32)) at_7 (by decide) rfl ?_
    refine g_newr X0 K (q := 11) (cap := 5) (vs := [.null, .null, .null, .null, .null]) (w1 H) (w2 H) e0 at_8 (by decide) (by decide) rfl (by decide) (by decide) (by decide) rfl ?_
    intro T55 h55 b55 kA55 X55 e55 E55 z55 A55 O55
    have ge55 : Z.heap.size ≤ b55 := Nat.le_trans Ol0.2.1 (Nat.le_of_eq z55)
    have Ol55 := Ol0.ext E55
    refine g_dup X55 K (q := 12) at_11 rfl rfl ?_
    refine g_iconst X55 K (q := 13) (v := (0 : Int32)) at_12 (by decide) rfl ?_
    refine g_gets X55 K (q := 16) (w3 H) e55 ((s0 H).ext Ol55.2) at_13 rfl ?_
    intro T56 X56 e56
    refine g_aast X56 K (q := 17) (vs' := [(.ref (ad0 Z a0)), .null, .null, .null, .null]) e56 A55 (Or.inr ⟨_, rfl, O55, (Ins.self ((x0 H).ext Ol55.2))⟩) (by decide) (Nat.le_of_ble_eq_true rfl) rfl at_16 rfl ?_
    intro T57 h57 X57 e57 W57 F57
    have N57 := Fr.snoc X57 N0 ge55
    have Ol57 := Ol55.wr W57 ge55
    refine g_dup X57 K (q := 18) at_17 rfl rfl ?_
    refine g_iconst X57 K (q := 19) (v := (1 : Int32)) at_18 (by decide) rfl ?_
    refine g_gets X57 K (q := 22) (w7 H) e57 ((s1 H).ext Ol57.2) at_19 rfl ?_
    intro T58 X58 e58
    refine g_aast X58 K (q := 23) (vs' := [(.ref (ad0 Z a0)), (.ref (ad1 Z a0)), .null, .null, .null]) e58 F57 (Or.inr ⟨_, rfl, O55, (Ins.self ((x1 H).ext Ol57.2))⟩) (by decide) (Nat.le_of_ble_eq_true rfl) rfl at_22 rfl ?_
    intro T59 h59 X59 e59 W59 F59
    have N59 := Fr.snoc X59 N57 ge55
    have Ol59 := Ol57.wr W59 ge55
    refine g_dup X59 K (q := 24) at_23 rfl rfl ?_
    refine g_iconst X59 K (q := 25) (v := (2 : Int32)) at_24 (by decide) rfl ?_
    refine g_gets X59 K (q := 28) (w9 H) e59 ((s2 H).ext Ol59.2) at_25 rfl ?_
    intro T60 X60 e60
    refine g_aast X60 K (q := 29) (vs' := [(.ref (ad0 Z a0)), (.ref (ad1 Z a0)), (.ref (ad2 Z a0)), .null, .null]) e60 F59 (Or.inr ⟨_, rfl, O55, (Ins.self ((x2 H).ext Ol59.2))⟩) (by decide) (Nat.le_of_ble_eq_true rfl) rfl at_28 rfl ?_
    intro T61 h61 X61 e61 W61 F61
    have N61 := Fr.snoc X61 N59 ge55
    have Ol61 := Ol59.wr W61 ge55
    refine g_dup X61 K (q := 30) at_29 rfl rfl ?_
    refine g_iconst X61 K (q := 31) (v := (3 : Int32)) at_30 (by decide) rfl ?_
    refine g_gets X61 K (q := 34) (w11 H) e61 ((s3 H).ext Ol61.2) at_31 rfl ?_
    intro T62 X62 e62
    refine g_aast X62 K (q := 35) (vs' := [(.ref (ad0 Z a0)), (.ref (ad1 Z a0)), (.ref (ad2 Z a0)), (.ref (ad3 Z a0)), .null]) e62 F61 (Or.inr ⟨_, rfl, O55, (Ins.self ((x3 H).ext Ol61.2))⟩) (by decide) (Nat.le_of_ble_eq_true rfl) rfl at_34 rfl ?_
    intro T63 h63 X63 e63 W63 F63
    have N63 := Fr.snoc X63 N61 ge55
    have Ol63 := Ol61.wr W63 ge55
    refine g_dup X63 K (q := 36) at_35 rfl rfl ?_
    refine g_iconst X63 K (q := 37) (v := (4 : Int32)) at_36 (by decide) rfl ?_
    refine g_gets X63 K (q := 40) (w13 H) e63 ((s4 H).ext Ol63.2) at_37 rfl ?_
    intro T64 X64 e64
    refine g_aast X64 K (q := 41) (vs' := [(.ref (ad0 Z a0)), (.ref (ad1 Z a0)), (.ref (ad2 Z a0)), (.ref (ad3 Z a0)), (.ref (ad4 Z a0))]) e64 F63 (Or.inr ⟨_, rfl, O55, (Ins.self ((x4 H).ext Ol63.2))⟩) (by decide) (Nat.le_of_ble_eq_true rfl) rfl at_40 rfl ?_
    intro T65 h65 X65 e65 W65 F65
    have N65 := Fr.snoc X65 N63 ge55
    have Ol65 := Ol63.wr W65 ge55
    refine g_astoreN X65 K (q := 42) (L' := #[.val (.int p0), .val (.int (3 : Int32)), .val (.ref b55), .unset]) at_41 rfl rfl rfl ?_
    refine g_iconst X65 K (q := 43) (v := (5 : Int32)) at_42 (by decide) rfl ?_
    refine g_newp X65 K (q := 45) (cap := 5) (ty := .boolean) (vs := [(.int (0 : Int32)), (.int (0 : Int32)), (.int (0 : Int32)), (.int (0 : Int32)), (.int (0 : Int32))]) (w15 H) rfl e65 at_43 (by decide) (by decide) rfl (by decide) (by decide) (by decide) rfl ?_
    intro T66 h66 b66 kA66 X66 e66 E66 z66 A66
    have ge66 : Z.heap.size ≤ b66 := Nat.le_trans Ol65.2.1 (Nat.le_of_eq z66)
    have lk66 : b55 < b66 := Nat.lt_of_lt_of_eq F65.lt z66
    have Ol66 := Ol65.ext E66
    refine g_dup X66 K (q := 46) at_45 rfl rfl ?_
    refine g_iconst X66 K (q := 47) (v := (0 : Int32)) at_46 (by decide) rfl ?_
    refine g_iconst X66 K (q := 48) (v := (1 : Int32)) at_47 (by decide) rfl ?_
    refine g_zast X66 K (q := 49) (z := (1 : Int32)) (vs' := [(.int (1 : Int32)), (.int (0 : Int32)), (.int (0 : Int32)), (.int (0 : Int32)), (.int (0 : Int32))]) e66 A66 (by decide) (Nat.le_of_ble_eq_true rfl) (by decide) rfl at_48 rfl ?_
    intro T67 h67 X67 e67 W67 F67
    have N67 := Fr.snoc X67 N65 ge66
    have Ol67 := Ol66.wr W67 ge66
    refine g_dup X67 K (q := 50) at_49 rfl rfl ?_
    refine g_iconst X67 K (q := 51) (v := (1 : Int32)) at_50 (by decide) rfl ?_
    refine g_iconst X67 K (q := 52) (v := (1 : Int32)) at_51 (by decide) rfl ?_
    refine g_zast X67 K (q := 53) (z := (1 : Int32)) (vs' := [(.int (1 : Int32)), (.int (1 : Int32)), (.int (0 : Int32)), (.int (0 : Int32)), (.int (0 : Int32))]) e67 F67 (by decide) (Nat.le_of_ble_eq_true rfl) (by decide) rfl at_52 rfl ?_
    intro T68 h68 X68 e68 W68 F68
    have N68 := Fr.snoc X68 N67 ge66
    have Ol68 := Ol67.wr W68 ge66
    refine g_dup X68 K (q := 54) at_53 rfl rfl ?_
    refine g_iconst X68 K (q := 55) (v := (2 : Int32)) at_54 (by decide) rfl ?_
    refine g_iconst X68 K (q := 56) (v := (1 : Int32)) at_55 (by decide) rfl ?_
    refine g_zast X68 K (q := 57) (z := (1 : Int32)) (vs' := [(.int (1 : Int32)), (.int (1 : Int32)), (.int (1 : Int32)), (.int (0 : Int32)), (.int (0 : Int32))]) e68 F68 (by decide) (Nat.le_of_ble_eq_true rfl) (by decide) rfl at_56 rfl ?_
    intro T69 h69 X69 e69 W69 F69
    have N69 := Fr.snoc X69 N68 ge66
    have Ol69 := Ol68.wr W69 ge66
    refine g_dup X69 K (q := 58) at_57 rfl rfl ?_
    refine g_iconst X69 K (q := 59) (v := (3 : Int32)) at_58 (by decide) rfl ?_
    refine g_iconst X69 K (q := 60) (v := (0 : Int32)) at_59 (by decide) rfl ?_
    refine g_zast X69 K (q := 61) (z := (0 : Int32)) (vs' := [(.int (1 : Int32)), (.int (1 : Int32)), (.int (1 : Int32)), (.int (0 : Int32)), (.int (0 : Int32))]) e69 F69 (by decide) (Nat.le_of_ble_eq_true rfl) (by decide) rfl at_60 rfl ?_
    intro T70 h70 X70 e70 W70 F70
    have N70 := Fr.snoc X70 N69 ge66
    have Ol70 := Ol69.wr W70 ge66
    refine g_dup X70 K (q := 62) at_61 rfl rfl ?_
    refine g_iconst X70 K (q := 63) (v := (4 : Int32)) at_62 (by decide) rfl ?_
    refine g_iconst X70 K (q := 64) (v := (0 : Int32)) at_63 (by decide) rfl ?_
    refine g_zast X70 K (q := 65) (z := (0 : Int32)) (vs' := [(.int (1 : Int32)), (.int (1 : Int32)), (.int (1 : Int32)), (.int (0 : Int32)), (.int (0 : Int32))]) e70 F70 (by decide) (Nat.le_of_ble_eq_true rfl) (by decide) rfl at_64 rfl ?_
    intro T71 h71 X71 e71 W71 F71
    have N71 := Fr.snoc X71 N70 ge66
    have Ol71 := Ol70.wr W71 ge66
    refine g_astoreN X71 K (q := 66) (L' := #[.val (.int p0), .val (.int (3 : Int32)), .val (.ref b55), .val (.ref b66)]) at_65 rfl rfl rfl ?_
    refine g_aloadN X71 K (q := 67) at_66 rfl rfl rfl ?_
    refine g_iloadN X71 K (q := 68) at_67 rfl rfl ?_
    have ne4 : b55 ≠ b66 := (Nat.ne_of_lt lk66)
    have f4 := ((((((F65.ext E66).other W67 ne4).other W68 ne4).other W69 ne4).other W70 ne4).other W71 ne4)
    refine g_aald X71 K (q := 69) (v := (.ref (ad3 Z a0))) e71 f4 rfl (by decide) rfl at_68 rfl ?_
    refine g_virtual X71 K (q := 72) (W := 0) (a := (ad3 Z a0)) (w16 H) (w17 H) (nf_self K (w19 H)) (w19 H) (w18 H) (w4 H) (w20 H) (by decide) (rm1_3 l H h71 Ol71) e71 ((x3 H).ext Ol71.2) rfl (argsL := []) (rest := []) (lenOf pd_0 rfl) rfl rfl (Nat.le_of_eq rfl) at_69 (by decide) (by decide) (by decide) (by decide) rfl ?_
    rintro T72 v72 L72 X72 ⟨rfl, N72q, e72⟩
    have N72 := Fr.app N71 N72q
    show Go p e below _ T72 (mkF m 72 #[.val (.int p0), .val (.int (3 : Int32)), .val (.ref b55), .val (.ref b66)] [(.int (0 : Int32))])
    refine g_aloadN X72 K (q := 73) at_72 rfl rfl rfl ?_
    refine g_iloadN X72 K (q := 74) at_73 rfl rfl ?_
    refine g_zald X72 K (q := 75) (v := (.int (0 : Int32))) e72 F71 (by decide) rfl at_74 rfl ?_
    refine g_icN X72 K (q := 78) at_75 (by decide) rfl ?_
    refine g_iconst X72 K (q := 79) (v := (1 : Int32)) at_78 (by decide) rfl ?_
    refine g_goto X72 K (q := 83) at_79 (by decide) (by decide) ?_
    refine g_nret X72 K (by simp) (z' := (1 : Int32)) (by decide) at_83 (by decide) (by decide) ?_
    exact ⟨rfl, N72⟩
  · refine g_irem X0 K (q := 6) (z := (4 : Int32)) at_5 (by decide) hs1 rfl ?_
    refine g_istoreN X0 K (q := 7) (L' := #[.val (.int p0), .val (.int (4 : Int32)), .unset, .unset]) at_6 rfl rfl ?_
    refine g_iconst X0 K (q := 8) (v := (5 : Int32)) at_7 (by decide) rfl ?_
    refine g_newr X0 K (q := 11) (cap := 5) (vs := [.null, .null, .null, .null, .null]) (w1 H) (w2 H) e0 at_8 (by decide) (by decide) rfl (by decide) (by decide) (by decide) rfl ?_
    intro T73 h73 b73 kA73 X73 e73 E73 z73 A73 O73
    have ge73 : Z.heap.size ≤ b73 := Nat.le_trans Ol0.2.1 (Nat.le_of_eq z73)
    have Ol73 := Ol0.ext E73
    refine g_dup X73 K (q := 12) at_11 rfl rfl ?_
    refine g_iconst X73 K (q := 13) (v := (0 : Int32)) at_12 (by decide) rfl ?_
    refine g_gets X73 K (q := 16) (w3 H) e73 ((s0 H).ext Ol73.2) at_13 rfl ?_
    intro T74 X74 e74
    refine g_aast X74 K (q := 17) (vs' := [(.ref (ad0 Z a0)), .null, .null, .null, .null]) e74 A73 (Or.inr ⟨_, rfl, O73, (Ins.self ((x0 H).ext Ol73.2))⟩) (by decide) (Nat.le_of_ble_eq_true rfl) rfl at_16 rfl ?_
    intro T75 h75 X75 e75 W75 F75
    have N75 := Fr.snoc X75 N0 ge73
    have Ol75 := Ol73.wr W75 ge73
    refine g_dup X75 K (q := 18) at_17 rfl rfl ?_
    refine g_iconst X75 K (q := 19) (v := (1 : Int32)) at_18 (by decide) rfl ?_
    refine g_gets X75 K (q := 22) (w7 H) e75 ((s1 H).ext Ol75.2) at_19 rfl ?_
    intro T76 X76 e76
    refine g_aast X76 K (q := 23) (vs' := [(.ref (ad0 Z a0)), (.ref (ad1 Z a0)), .null, .null, .null]) e76 F75 (Or.inr ⟨_, rfl, O73, (Ins.self ((x1 H).ext Ol75.2))⟩) (by decide) (Nat.le_of_ble_eq_true rfl) rfl at_22 rfl ?_
    intro T77 h77 X77 e77 W77 F77
    have N77 := Fr.snoc X77 N75 ge73
    have Ol77 := Ol75.wr W77 ge73
    refine g_dup X77 K (q := 24) at_23 rfl rfl ?_
    refine g_iconst X77 K (q := 25) (v := (2 : Int32)) at_24 (by decide) rfl ?_
    refine g_gets X77 K (q := 28) (w9 H) e77 ((s2 H).ext Ol77.2) at_25 rfl ?_
    intro T78 X78 e78
    refine g_aast X78 K (q := 29) (vs' := [(.ref (ad0 Z a0)), (.ref (ad1 Z a0)), (.ref (ad2 Z a0)), .null, .null]) e78 F77 (Or.inr ⟨_, rfl, O73, (Ins.self ((x2 H).ext Ol77.2))⟩) (by decide) (Nat.le_of_ble_eq_true rfl) rfl at_28 rfl ?_
    intro T79 h79 X79 e79 W79 F79
    have N79 := Fr.snoc X79 N77 ge73
    have Ol79 := Ol77.wr W79 ge73
    refine g_dup X79 K (q := 30) at_29 rfl rfl ?_
    refine g_iconst X79 K (q := 31) (v := (3 : Int32)) at_30 (by decide) rfl ?_
    refine g_gets X79 K (q := 34) (w11 H) e79 ((s3 H).ext Ol79.2) at_31 rfl ?_
    intro T80 X80 e80
    refine g_aast X80 K (q := 35) (vs' := [(.ref (ad0 Z a0)), (.ref (ad1 Z a0)), (.ref (ad2 Z a0)), (.ref (ad3 Z a0)), .null]) e80 F79 (Or.inr ⟨_, rfl, O73, (Ins.self ((x3 H).ext Ol79.2))⟩) (by decide) (Nat.le_of_ble_eq_true rfl) rfl at_34 rfl ?_
    intro T81 h81 X81 e81 W81 F81
    have N81 := Fr.snoc X81 N79 ge73
    have Ol81 := Ol79.wr W81 ge73
    refine g_dup X81 K (q := 36) at_35 rfl rfl ?_
    refine g_iconst X81 K (q := 37) (v := (4 : Int32)) at_36 (by decide) rfl ?_
    refine g_gets X81 K (q := 40) (w13 H) e81 ((s4 H).ext Ol81.2) at_37 rfl ?_
    intro T82 X82 e82
    refine g_aast X82 K (q := 41) (vs' := [(.ref (ad0 Z a0)), (.ref (ad1 Z a0)), (.ref (ad2 Z a0)), (.ref (ad3 Z a0)), (.ref (ad4 Z a0))]) e82 F81 (Or.inr ⟨_, rfl, O73, (Ins.self ((x4 H).ext Ol81.2))⟩) (by decide) (Nat.le_of_ble_eq_true rfl) rfl at_40 rfl ?_
    intro T83 h83 X83 e83 W83 F83
    have N83 := Fr.snoc X83 N81 ge73
    have Ol83 := Ol81.wr W83 ge73
    refine g_astoreN X83 K (q := 42) (L' := #[.val (.int p0), .val (.int (4 : Int32)), .val (.ref b73), .unset]) at_41 rfl rfl rfl ?_
    refine g_iconst X83 K (q := 43) (v := (5 : Int32)) at_42 (by decide) rfl ?_
    refine g_newp X83 K (q := 45) (cap := 5) (ty := .boolean) (vs := [(.int (0 : Int32)), (.int (0 : Int32)), (.int (0 : Int32)), (.int (0 : Int32)), (.int (0 : Int32))]) (w15 H) rfl e83 at_43 (by decide) (by decide) rfl (by decide) (by decide) (by decide) rfl ?_
    intro T84 h84 b84 kA84 X84 e84 E84 z84 A84
    have ge84 : Z.heap.size ≤ b84 := Nat.le_trans Ol83.2.1 (Nat.le_of_eq z84)
    have lk84 : b73 < b84 := Nat.lt_of_lt_of_eq F83.lt z84
    have Ol84 := Ol83.ext E84
    refine g_dup X84 K (q := 46) at_45 rfl rfl ?_
    refine g_iconst X84 K (q := 47) (v := (0 : Int32)) at_46 (by decide) rfl ?_
    refine g_iconst X84 K (q := 48) (v := (1 : Int32)) at_47 (by decide) rfl ?_
    refine g_zast X84 K (q := 49) (z := (1 : Int32)) (vs' := [(.int (1 : Int32)), (.int (0 : Int32)), (.int (0 : Int32)), (.int (0 : Int32)), (.int (0 : Int32))]) e84 A84 (by decide) (Nat.le_of_ble_eq_true rfl) (by decide) rfl at_48 rfl ?_
    intro T85 h85 X85 e85 W85 F85
    have N85 := Fr.snoc X85 N83 ge84
    have Ol85 := Ol84.wr W85 ge84
    refine g_dup X85 K (q := 50) at_49 rfl rfl ?_
    refine g_iconst X85 K (q := 51) (v := (1 : Int32)) at_50 (by decide) rfl ?_
    refine g_iconst X85 K (q := 52) (v := (1 : Int32)) at_51 (by decide) rfl ?_
    refine g_zast X85 K (q := 53) (z := (1 : Int32)) (vs' := [(.int (1 : Int32)), (.int (1 : Int32)), (.int (0 : Int32)), (.int (0 : Int32)), (.int (0 : Int32))]) e85 F85 (by decide) (Nat.le_of_ble_eq_true rfl) (by decide) rfl at_52 rfl ?_
    intro T86 h86 X86 e86 W86 F86
    have N86 := Fr.snoc X86 N85 ge84
    have Ol86 := Ol85.wr W86 ge84
    refine g_dup X86 K (q := 54) at_53 rfl rfl ?_
    refine g_iconst X86 K (q := 55) (v := (2 : Int32)) at_54 (by decide) rfl ?_
    refine g_iconst X86 K (q := 56) (v := (1 : Int32)) at_55 (by decide) rfl ?_
    refine g_zast X86 K (q := 57) (z := (1 : Int32)) (vs' := [(.int (1 : Int32)), (.int (1 : Int32)), (.int (1 : Int32)), (.int (0 : Int32)), (.int (0 : Int32))]) e86 F86 (by decide) (Nat.le_of_ble_eq_true rfl) (by decide) rfl at_56 rfl ?_
    intro T87 h87 X87 e87 W87 F87
    have N87 := Fr.snoc X87 N86 ge84
    have Ol87 := Ol86.wr W87 ge84
    refine g_dup X87 K (q := 58) at_57 rfl rfl ?_
    refine g_iconst X87 K (q := 59) (v := (3 : Int32)) at_58 (by decide) rfl ?_
    refine g_iconst X87 K (q := 60) (v := (0 : Int32)) at_59 (by decide) rfl ?_
    refine g_zast X87 K (q := 61) (z := (0 : Int32)) (vs' := [(.int (1 : Int32)), (.int (1 : Int32)), (.int (1 : Int32)), (.int (0 : Int32)), (.int (0 : Int32))]) e87 F87 (by decide) (Nat.le_of_ble_eq_true rfl) (by decide) rfl at_60 rfl ?_
    intro T88 h88 X88 e88 W88 F88
    have N88 := Fr.snoc X88 N87 ge84
    have Ol88 := Ol87.wr W88 ge84
    refine g_dup X88 K (q := 62) at_61 rfl rfl ?_
    refine g_iconst X88 K (q := 63) (v := (4 : Int32)) at_62 (by decide) rfl ?_
    refine g_iconst X88 K (q := 64) (v := (0 : Int32)) at_63 (by decide) rfl ?_
    refine g_zast X88 K (q := 65) (z := (0 : Int32)) (vs' := [(.int (1 : Int32)), (.int (1 : Int32)), (.int (1 : Int32)), (.int (0 : Int32)), (.int (0 : Int32))]) e88 F88 (by decide) (Nat.le_of_ble_eq_true rfl) (by decide) rfl at_64 rfl ?_
    intro T89 h89 X89 e89 W89 F89
    have N89 := Fr.snoc X89 N88 ge84
    have Ol89 := Ol88.wr W89 ge84
    refine g_astoreN X89 K (q := 66) (L' := #[.val (.int p0), .val (.int (4 : Int32)), .val (.ref b73), .val (.ref b84)]) at_65 rfl rfl rfl ?_
    refine g_aloadN X89 K (q := 67) at_66 rfl rfl rfl ?_
    refine g_iloadN X89 K (q := 68) at_67 rfl rfl ?_
    have ne5 : b73 ≠ b84 := (Nat.ne_of_lt lk84)
    have f5 := ((((((F83.ext E84).other W85 ne5).other W86 ne5).other W87 ne5).other W88 ne5).other W89 ne5)
    refine g_aald X89 K (q := 69) (v := (.ref (ad4 Z a0))) e89 f5 rfl (by decide) rfl at_68 rfl ?_
    refine g_virtual X89 K (q := 72) (W := 0) (a := (ad4 Z a0)) (w16 H) (w17 H) (nf_self K (w19 H)) (w19 H) (w18 H) (w4 H) (w20 H) (by decide) (rm1_4 l H h89 Ol89) e89 ((x4 H).ext Ol89.2) rfl (argsL := []) (rest := []) (lenOf pd_0 rfl) rfl rfl (Nat.le_of_eq rfl) at_69 (by decide) (by decide) (by decide) (by decide) rfl ?_
    rintro T90 v90 L90 X90 ⟨rfl, N90q, e90⟩
    have N90 := Fr.app N89 N90q
    show Go p e below _ T90 (mkF m 72 #[.val (.int p0), .val (.int (4 : Int32)), .val (.ref b73), .val (.ref b84)] [(.int (0 : Int32))])
    refine g_aloadN X90 K (q := 73) at_72 rfl rfl rfl ?_
    refine g_iloadN X90 K (q := 74) at_73 rfl rfl ?_
    refine g_zald X90 K (q := 75) (v := (.int (0 : Int32))) e90 F89 (by decide) rfl at_74 rfl ?_
    refine g_icN X90 K (q := 78) at_75 (by decide) rfl ?_
    refine g_iconst X90 K (q := 79) (v := (1 : Int32)) at_78 (by decide) rfl ?_
    refine g_goto X90 K (q := 83) at_79 (by decide) (by decide) ?_
    refine g_nret X90 K (by simp) (z' := (1 : Int32)) (by decide) at_83 (by decide) (by decide) ?_
    exact ⟨rfl, N90⟩
set_option maxRecDepth 65536 in
set_option maxHeartbeats 40000000 in
theorem comes_1 {Post : Tables → Env → Array Value → State → Outcome → State → Prop} (hpost : ∀ tb e args s v u, (limb_1_1.after args s (.returned v) u = true ∧ limb_1_2.after args s (.returned v) u = true ∧ True) → FrameEnd s (.returned v) u (Jvm.fieldLocs frame_1_writes args s ++ Jvm.arrayLocs frame_1_arrays args s ++ Jvm.staticLocs frame_1_statics s) 16 128 → Post tb e args s (.returned v) u) :
    ArmFor flags0 classFile x code maxLocals ret World_1 tables_1 room_1 Calls_1 rest_1 Pre_1 Post := by
  intro l hfl _ _ p e ha hc hk s m args below hf hA hF happ hP
  obtain ⟨hcalls, hrest, hpre⟩ := hP
  obtain ⟨-, -, -, hnamed, -, -, -, hat⟩ := (Spec.applies_iff hf).mp happ
  obtain ⟨hg, hn⟩ := and_e (Cond.before_iff.mp (show (Jvm.Cond.and given_1 narrow_1).before args s = true from hpre))
  obtain ⟨g0, hg0⟩ := and_e hg
  have g1 := hg0
  obtain ⟨u0, rfl⟩ : ∃ u0 : Value, args = #[u0] := by
    have hs : args.size = 1 := by simpa [Cond.value, given_1] using g0
    obtain ⟨L⟩ := args
    match L, hs with
    | [u0], _ => exact ⟨u0, rfl⟩
  have hw := fun d (hd : d ∈ tables_1) => atoms_spec (ws := Jvm.Cond.code x code maxLocals ret :: tables_1) hat d (List.mem_cons_of_mem _ hd)
  have hfit : Fit s := fun {y c} hc i hi => by
    obtain ⟨ha, rfl⟩ := Array.getElem?_eq_some_iff.mp hc
    have q := List.all_eq_true.mp ((Array.all_eq_true_iff_forall_mem.mp hF) _ (Array.getElem_mem ha)) i (List.mem_range.mpr hi)
    simpa [Array.getElem?_eq_getElem hi] using q
  obtain ⟨i0, ei0⟩ := is_v g1
  obtain rfl : u0 = (.int i0) := Option.some.inj ei0
  obtain ⟨n, o, h1, h2, h3, _, L, rfl, ⟨rfl, N⟩, hq⟩ := rm0 l (Z := s) ⟨hw, hn, hfit⟩ i0 s.heap (Old.start s) p e ha hc hk s m _ below hf ((Spec.applies_iff_loose hf).mp happ).1 ⟨rfl, State.Warmed39.refl s, rfl⟩ trivial
  refine ⟨n, _, h1, h2, h3, hpost _ _ _ _ _ _ ⟨Cond.after_iff.mpr rfl, Cond.after_iff.mpr (eq_i res_at (Term.int_eval (1)) rfl), trivial⟩ ⟨hq.1, hq.2.1, (hq.2.2.sift fun y hy => Or.inr (N y hy)).mono (by decide) (by decide)⟩⟩
theorem main_1_1 : Claimed_1_1 := comes_1 fun _ _ _ _ _ _ h hF => ⟨h.1, hF⟩
theorem main_1_2 : Claimed_1_2 := comes_1 fun _ _ _ _ _ _ h hF => ⟨h.2.1, hF⟩
end Jvm.Pilot.@@N@@
namespace Jvm.Pilot.@@N@@
open Jvm Jvm.ClassFile Sem Op Lib Jvm.Free Jvm.Stand Jvm.Pilot.@@N@@.Jvm.D
/-! MADE BY PROGRAM (witnessworld.py) out of the Statement's table words and the real class files: 15 classes; the members and pool entries that the words name. The judged class is class 1, her method 1. -/
namespace start1
open Jvm.ClassFile
def u (s : String) : CpInfo := .utf8 (stringToUtf16 s)
/-- a pool by its gaps: so many unusable entries, then the entry; so many at the end -/
def gap : Nat → List CpInfo → List CpInfo
  | 0, r => r
  | n + 1, r => .unusable :: gap n r
def poolList (es : List (Nat × CpInfo)) (last : Nat) : List CpInfo := es.foldr (fun e r => gap e.1 (e.2 :: r)) (gap last [])
def pool (es : List (Nat × CpInfo)) (last : Nat) : Array CpInfo := ⟨poolList es last⟩
def fileOf (pool : Array CpInfo) (this : Nat) (attrs : Array Attribute := #[]) (ms : Array MethodInfo := #[]) (fl : Nat := 33) (sup : Nat := 0) (ifs : Array Nat := #[]) (fds : Array FieldInfo := #[]) : ClassFile where
  minorVersion := 0
  majorVersion := 65
  constantPool := pool
  accessFlags := fl
  thisClass := this
  superClass := sup
  interfaces := ifs
  fields := fds
  methods := ms
  attributes := attrs
def plain (name : String) (sup : Option ClassId) : Class where
  name := name
  kind := .ordinary
  loader := none
  accessFlags := 33
  super := sup
  interfaces := #[]
  cf := none
  fields := #[]
  methods := #[]
  instanceTypes := #[]
  staticTypes := #[]
  resolved := #[]
  callSites := []
  init := .initialized
  statics := none
  mirror := none

def pool0 : Array CpInfo := pool [(5, u "<init>"), (0, u "()V"), (1, .class_ 10), (1, u "java/lang/Object")] 113

def k0m0 : Method := { name := "<init>", desc := "()V", sig := { parameters := [], returnType := none }, accessFlags := 1, code := none }
/-- java/lang/Object -/
def k0 : Class := { plain "java/lang/Object" none with
  accessFlags := 33
  interfaces := #[]
  cf := some (fileOf pool0 8 #[] #[{ accessFlags := 1, nameIndex := 5, descriptorIndex := 6, attributes := #[] }] 33 0 #[] #[])
  fields := #[]
  methods := #[k0m0]
  instanceTypes := #[]
  staticTypes := #[]
  resolved := Array.replicate 124 none
  statics := none }

def pool1 : Array CpInfo := pool [(2, .class_ 4), (1, u "java/lang/Object"), (0, u "<init>"), (0, u "()V"), (0, .integer 2147483647), (0, .class_ 9), (0, u "com/example/orderwire/orderwire/engine/TimeInForce"), (0, .fieldref 8 11), (0, .nameAndType 12 13), (0, u "DAY"), (0, u "Lcom/example/orderwire/orderwire/engine/TimeInForce;"), (0, .fieldref 8 15), (0, .nameAndType 16 13), (0, u "GTC"), (0, .fieldref 8 18), (0, .nameAndType 19 13), (0, u "GTD"), (0, .fieldref 8 21), (0, .nameAndType 22 13), (0, u "IOC"), (0, .fieldref 8 24), (0, .nameAndType 25 13), (0, u "FOK"), (0, .methodref 8 27), (0, .nameAndType 28 29), (0, u "rests"), (0, u "()Z"), (0, .class_ 31), (0, u "com/example/orderwire/orderwire/engine/TimeInForceRestsPinLaw"), (2, u "law"), (0, u "(I)Z")] 7

def k1m0 : Method := { name := "<init>", desc := "()V", sig := { parameters := [], returnType := none }, accessFlags := 1, code := none }
def k1c1 : Code := { maxStack := 4, maxLocals := 4, code := code, exceptionTable := #[], attributes := #[] }
def k1m1 : Method := { name := "law", desc := "(I)Z", sig := { parameters := [.int], returnType := some .boolean }, accessFlags := 9, code := some k1c1 }
/-- com/example/orderwire/orderwire/engine/TimeInForceRestsPinLaw -/
def k1 : Class := { plain "com/example/orderwire/orderwire/engine/TimeInForceRestsPinLaw" (some 0) with
  accessFlags := 49
  interfaces := #[]
  cf := some (fileOf pool1 30 #[] #[{ accessFlags := 1, nameIndex := 5, descriptorIndex := 6, attributes := #[] }, { accessFlags := 9, nameIndex := 34, descriptorIndex := 35, attributes := #[] }] 49 2 #[] #[])
  fields := #[]
  methods := #[k1m0, k1m1]
  instanceTypes := #[]
  staticTypes := #[]
  resolved := Array.replicate 43 none
  statics := none }

def pool2 : Array CpInfo := pool [(1, .class_ 2), (0, u "java/lang/constant/Constable"), (0, .class_ 4), (0, u "java/lang/Object")] 6

/-- java/lang/constant/Constable -/
def k2 : Class := { plain "java/lang/constant/Constable" (some 0) with
  accessFlags := 1537
  interfaces := #[]
  cf := some (fileOf pool2 1 #[] #[] 1537 3 #[] #[])
  fields := #[]
  methods := #[]
  instanceTypes := #[]
  staticTypes := #[]
  resolved := Array.replicate 11 none
  statics := none }

def pool3 : Array CpInfo := pool [(1, .class_ 2), (0, u "java/lang/Comparable"), (0, .class_ 4), (0, u "java/lang/Object")] 7

/-- java/lang/Comparable -/
def k3 : Class := { plain "java/lang/Comparable" (some 0) with
  accessFlags := 1537
  interfaces := #[]
  cf := some (fileOf pool3 1 #[] #[] 1537 3 #[] #[])
  fields := #[]
  methods := #[]
  instanceTypes := #[]
  staticTypes := #[]
  resolved := Array.replicate 12 none
  statics := none }

def pool4 : Array CpInfo := pool [(1, .class_ 2), (0, u "java/io/Serializable"), (0, .class_ 4), (0, u "java/lang/Object")] 2

/-- java/io/Serializable -/
def k4 : Class := { plain "java/io/Serializable" (some 0) with
  accessFlags := 1537
  interfaces := #[]
  cf := some (fileOf pool4 1 #[] #[] 1537 3 #[] #[])
  fields := #[]
  methods := #[]
  instanceTypes := #[]
  staticTypes := #[]
  resolved := Array.replicate 7 none
  statics := none }

def pool5 : Array CpInfo := pool [(2, .class_ 4), (1, u "java/lang/Enum"), (0, u "name"), (0, u "Ljava/lang/String;"), (2, u "ordinal"), (0, u "I"), (1, .class_ 14), (1, u "java/lang/Object"), (4, u "hash"), (86, .class_ 108), (1, u "java/lang/Enum$EnumDesc"), (2, .class_ 112), (0, u "java/lang/constant/Constable"), (0, .class_ 114), (0, u "java/lang/Comparable"), (0, .class_ 116), (0, u "java/io/Serializable")] 87

/-- java/lang/Enum -/
def k5 : Class := { plain "java/lang/Enum" (some 0) with
  accessFlags := 1057
  interfaces := #[2, 3, 4]
  cf := some (fileOf pool5 2 #[.nestMembers #[106]] #[] 1057 12 #[111, 113, 115] #[{ accessFlags := 18, nameIndex := 5, descriptorIndex := 6, attributes := #[] }, { accessFlags := 18, nameIndex := 9, descriptorIndex := 10, attributes := #[] }, { accessFlags := 2, nameIndex := 19, descriptorIndex := 10, attributes := #[] }])
  fields := #[{ name := "name", type := (.object "java/lang/String"), accessFlags := 18, slot := 0, constantValue := 0 }, { name := "ordinal", type := .int, accessFlags := 18, slot := 1, constantValue := 0 }, { name := "hash", type := .int, accessFlags := 2, slot := 2, constantValue := 0 }]
  methods := #[]
  instanceTypes := #[(.object "java/lang/String"), .int, .int]
  staticTypes := #[]
  resolved := Array.replicate 204 none
  statics := none }

def pool6 : Array CpInfo := pool [(1, .class_ 2), (0, u "com/example/orderwire/orderwire/engine/TimeInForce"), (2, u "DAY"), (0, u "Lcom/example/orderwire/orderwire/engine/TimeInForce;"), (2, u "GTC"), (2, u "GTD"), (0, .fieldref 1 14), (0, .nameAndType 15 6), (0, u "IOC"), (0, .fieldref 1 17), (0, .nameAndType 18 6), (0, u "FOK"), (2, u "$VALUES"), (0, u "[Lcom/example/orderwire/orderwire/engine/TimeInForce;"), (6, .class_ 31), (1, u "java/lang/Enum"), (23, u "rests"), (0, u "()Z")] 5

def k6c0 : Code := { maxStack := 2, maxLocals := 1, code := prog_57_method_4_code, exceptionTable := #[], attributes := #[] }
def k6m0 : Method := { name := "rests", desc := "()Z", sig := { parameters := [], returnType := some .boolean }, accessFlags := 0, code := some k6c0 }
/-- com/example/orderwire/orderwire/engine/TimeInForce -/
def k6 : Class := { plain "com/example/orderwire/orderwire/engine/TimeInForce" (some 5) with
  accessFlags := 16433
  interfaces := #[]
  cf := some (fileOf pool6 1 #[] #[{ accessFlags := 0, nameIndex := 55, descriptorIndex := 56, attributes := #[] }] 16433 29 #[] #[{ accessFlags := 16409, nameIndex := 5, descriptorIndex := 6, attributes := #[] }, { accessFlags := 16409, nameIndex := 9, descriptorIndex := 6, attributes := #[] }, { accessFlags := 16409, nameIndex := 12, descriptorIndex := 6, attributes := #[] }, { accessFlags := 16409, nameIndex := 15, descriptorIndex := 6, attributes := #[] }, { accessFlags := 16409, nameIndex := 18, descriptorIndex := 6, attributes := #[] }, { accessFlags := 4122, nameIndex := 21, descriptorIndex := 22, attributes := #[] }])
  fields := #[{ name := "DAY", type := (.object "com/example/orderwire/orderwire/engine/TimeInForce"), accessFlags := 16409, slot := 0, constantValue := 0 }, { name := "GTC", type := (.object "com/example/orderwire/orderwire/engine/TimeInForce"), accessFlags := 16409, slot := 1, constantValue := 0 }, { name := "GTD", type := (.object "com/example/orderwire/orderwire/engine/TimeInForce"), accessFlags := 16409, slot := 2, constantValue := 0 }, { name := "IOC", type := (.object "com/example/orderwire/orderwire/engine/TimeInForce"), accessFlags := 16409, slot := 3, constantValue := 0 }, { name := "FOK", type := (.object "com/example/orderwire/orderwire/engine/TimeInForce"), accessFlags := 16409, slot := 4, constantValue := 0 }, { name := "$VALUES", type := (.array (.object "com/example/orderwire/orderwire/engine/TimeInForce")), accessFlags := 4122, slot := 5, constantValue := 0 }]
  methods := #[k6m0]
  instanceTypes := #[(.object "java/lang/String"), .int, .int]
  staticTypes := #[(.object "com/example/orderwire/orderwire/engine/TimeInForce"), (.object "com/example/orderwire/orderwire/engine/TimeInForce"), (.object "com/example/orderwire/orderwire/engine/TimeInForce"), (.object "com/example/orderwire/orderwire/engine/TimeInForce"), (.object "com/example/orderwire/orderwire/engine/TimeInForce"), (.array (.object "com/example/orderwire/orderwire/engine/TimeInForce"))]
  resolved := Array.replicate 62 none
  statics := some 0 }

def pool7 : Array CpInfo := pool [(1, u "java/lang/Cloneable"), (0, .class_ 1), (0, u "java/lang/Object"), (0, .class_ 3)] 3

/-- java/lang/Cloneable -/
def k7 : Class := { plain "java/lang/Cloneable" (some 0) with
  accessFlags := 1537
  interfaces := #[]
  cf := some (fileOf pool7 2 #[] #[] 1537 4 #[] #[])
  fields := #[]
  methods := #[]
  instanceTypes := #[]
  staticTypes := #[]
  resolved := Array.replicate 8 none
  statics := none }

/-- the primitive boolean -/
def k8 : Class := { plain "boolean" none with kind := .primitive 'Z', accessFlags := 0x411 }
/-- [Z -/
def k9 : Class := { plain "[Z" (some 0) with kind := .array 8 .boolean, interfaces := #[7, 4], accessFlags := 1041 }

/-- the primitive byte -/
def k10 : Class := { plain "byte" none with kind := .primitive 'B', accessFlags := 0x411 }
/-- [B -/
def k11 : Class := { plain "[B" (some 0) with kind := .array 10 .byte, interfaces := #[7, 4], accessFlags := 1041 }

/-- the primitive int -/
def k12 : Class := { plain "int" none with kind := .primitive 'I', accessFlags := 0x411 }
/-- [I -/
def k13 : Class := { plain "[I" (some 0) with kind := .array 12 .int, interfaces := #[7, 4], accessFlags := 1041 }

/-- [Lcom/example/orderwire/orderwire/engine/TimeInForce; -/
def k14 : Class := { plain "[Lcom/example/orderwire/orderwire/engine/TimeInForce;" (some 0) with kind := .array 6 (.object "com/example/orderwire/orderwire/engine/TimeInForce"), interfaces := #[7, 4], accessFlags := 1041 }

def heap : Heap := #[{ cls := 6, slots := #[.ref 1, .ref 2, .ref 3, .ref 4, .ref 5, .null], vm := .statics 6 },
  { cls := 6, slots := #[.null, .int 0, .int 0], vm := .none },
  { cls := 6, slots := #[.null, .int 1, .int 0], vm := .none },
  { cls := 6, slots := #[.null, .int 2, .int 0], vm := .none },
  { cls := 6, slots := #[.null, .int 3, .int 0], vm := .none },
  { cls := 6, slots := #[.null, .int 4, .int 0], vm := .none }]
def classes : Array Class := #[k0, k1, k2, k3, k4, k5, k6, k7, k8, k9, k10, k11, k12, k13, k14]
def interned : List (Array UInt16 × Addr) := []
def slotsUsed : Nat := 21
def theMethod : MethodId := ⟨1, 1⟩
def args0 : Array Value := #[.int 1]
def aboutOver (below : List Frame) : State where
  vm := { classes := classes, interned := interned.toArray }
  heap := heap
  slotsUsed := slotsUsed
  threads := #[{ frames := .invoking theMethod args0 :: below }]
def below0 : List Frame := [.native { method := ⟨0, 0⟩, args := #[] }]
def about1 : State := aboutOver below0
def p0 : Program := .bare "" "" ""
def e0 : Env := launch0.env 0 0 0
theorem w_frames : about1.frames = Frame.invoking theMethod args0 :: below0 := rfl
set_option maxRecDepth 65536 in
theorem w_args : argsFit about1.vm theMethod args0 = true := by decide +kernel
set_option maxRecDepth 65536 in
theorem w_heap : heapFits about1 = true := by decide +kernel
set_option maxRecDepth 65536 in
theorem w_runnable : about1.curStatus? = some .runnable := by decide +kernel
set_option maxRecDepth 65536 in
theorem w_alone : about1.alone = true := by decide +kernel
set_option maxRecDepth 65536 in
theorem w_named : about1.methodNamed? x = some theMethod := by decide +kernel
set_option maxRecDepth 65536 in
theorem w_hears : about1.hears theMethod below0 = true := by decide +kernel
set_option maxRecDepth 65536 in
theorem w_ripe : about1.ripe theMethod args0 below0 = true := by decide +kernel
theorem w_running : about1.status = .running := rfl
set_option maxRecDepth 65536 in
theorem w_room : about1.hasRoom e0.platform room_1 = true :=
  launch0.hasRoom_least _ room_1 (by decide +kernel) (by decide +kernel) (by decide +kernel) (by decide +kernel) (by decide +kernel) (by decide +kernel)
theorem allAtoms_all (ts : List Jvm.Cond) (a : Array Jvm.Value) (st : Jvm.State) : (allAtoms ts).before a st = ts.all (fun c => c.before a st) := by
  induction ts with
  | nil => rfl
  | cons c t ih =>
    show (Jvm.Cond.and c (allAtoms t)).before a st = _
    rw [Jvm.Cond.before_and, ih, List.all_cons]
def words1 : List Jvm.Cond := Jvm.Cond.code x code maxLocals ret :: tables_1
/-- a 'code' word, met by the world's own term for the bytes: nothing is compared byte by byte -/
theorem code_word {y : MethodName} {bytes : ByteArray} {mx : Nat} {rt : Option FieldType} {a : Array Value} {s : State} {m : MethodId} {meth : Method} {c : Code} (h1 : s.methodNamed? y = some m) (h2 : s.vm.method? m = some meth) (h3 : meth.code = some c) (h4 : c.code = bytes)
    (h5 : (c.maxLocals == mx && c.exceptionTable.isEmpty && decide (c.maxStack ≤ mostOperands) && decide (meth.sig.returnType = rt) && !meth.locks && decide (parseMethodDescriptor y.desc = some meth.sig)) = true) : (Jvm.Cond.code y bytes mx rt).before a s = true := by
  simp only [Bool.and_eq_true, beq_iff_eq, Bool.not_eq_true', decide_eq_true_eq] at h5
  obtain ⟨⟨⟨⟨⟨g1, g2⟩, g3⟩, g4⟩, g5⟩, g6⟩ := h5
  simp [Cond.before, Cond.holds, Cond.value, h1, h2, h3, h4, g1, g2, g3, g4, g5, g6]
def isCode : Jvm.Cond → Bool
  | .code _ _ _ _ => true
  | _ => false
theorem all_split {L : List Jvm.Cond} {P : Jvm.Cond → Bool} (h1 : L.all (fun c => isCode c || P c) = true) (h2 : ∀ c ∈ L.filter isCode, P c = true) : L.all P = true := by
  refine List.all_eq_true.mpr fun c hc => ?_
  have h := List.all_eq_true.mp h1 c hc
  rcases Bool.eq_false_or_eq_true (isCode c) with hi | hi
  · exact h2 c (List.mem_filter.mpr ⟨hc, hi⟩)
  · simpa [hi] using h
set_option maxRecDepth 65536 in
theorem w_c0 : (Jvm.Cond.code x code maxLocals ret).before args0 about1 = true := code_word (m := ⟨1, 1⟩) (meth := k1m1) (c := k1c1) (by decide +kernel) rfl rfl rfl (by decide +kernel)
set_option maxRecDepth 65536 in
theorem w_c1 : (Jvm.Cond.code ({ cls := "com/example/orderwire/orderwire/engine/TimeInForce", name := "rests", desc := "()Z" } : Jvm.MethodName) prog_57_method_4_code (1 : Nat) (Option.some Jvm.ClassFile.FieldType.boolean)).before args0 about1 = true := code_word (m := ⟨6, 0⟩) (meth := k6m0) (c := k6c0) (by decide +kernel) rfl rfl rfl (by decide +kernel)
def codes1 : List Jvm.Cond := [Jvm.Cond.code x code maxLocals ret, Jvm.Cond.code ({ cls := "com/example/orderwire/orderwire/engine/TimeInForce", name := "rests", desc := "()Z" } : Jvm.MethodName) prog_57_method_4_code (1 : Nat) (Option.some Jvm.ClassFile.FieldType.boolean)]
set_option maxRecDepth 65536 in
theorem codes_eq : words1.filter isCode = codes1 := rfl
theorem w_codes : ∀ c ∈ words1.filter isCode, c.before args0 about1 = true := by
  rw [codes_eq]
  intro c hc
  simp only [codes1, List.mem_cons, List.not_mem_nil, or_false] at hc
  rcases hc with rfl | rfl
  · exact w_c0
  · exact w_c1
set_option maxRecDepth 65536 in
theorem w_t1 : words1.all (fun c => isCode c || c.before args0 about1) = true := by decide +kernel
theorem w_tables : (allAtoms (Jvm.Cond.code x code maxLocals ret :: tables_1)).before args0 about1 = true := by
  rw [allAtoms_all]
  show words1.all (fun c => c.before args0 about1) = true
  refine all_split ?_ w_codes
  rw [w_t1]
set_option maxRecDepth 65536 in
theorem w_case : (Jvm.Cond.and given_1 narrow_1).before args0 about1 = true := by decide +kernel
theorem w_applies : (headSpec (Jvm.Cond.code x code maxLocals ret :: tables_1) room_1).applies x e0.platform about1 = true :=
  (Spec.applies_iff w_frames).mpr ⟨w_running, w_runnable, w_alone, w_named, w_hears, w_ripe, w_room, w_tables⟩
theorem atStart : AtStart classFile x code maxLocals ret World_1 tables_1 room_1 Calls_1 rest_1 Pre_1 launch0 p0 e0 about1 theMethod args0 below0 :=
  ⟨lists_1, trivial, launch0.admits_env _ _ _, launch0.least_env, fairChoices_fair.cas, fairChoices_fair.clock, w_frames, w_args, w_heap, w_applies, trivial, trivial, w_case⟩
end start1
theorem witness_1 : WitnessClaimed_1 := ⟨start1.p0, start1.e0, start1.about1, start1.theMethod, start1.args0, start1.below0, start1.atStart⟩
end Jvm.Pilot.@@N@@
