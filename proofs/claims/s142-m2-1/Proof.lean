import JvmDerived
import JvmDerived.Pilot.@@N@@Statement
import JvmDerived.Pilot.@@N@@Code
set_option linter.unusedVariables false
set_option linter.unusedSimpArgs false
namespace Jvm.Pilot.@@N@@
open Jvm Jvm.ClassFile Sem Op Lib Jvm.Free Jvm.Stand Jvm.LawKit Jvm.RoadKit Bundle Jvm.Pilot.@@N@@.Jvm.D
section Own
variable {p : Program} {l : Launch} {e : Env} {R : Room} {s : State} {m : MethodId} {args : Array Value} {below : List Frame} {meth : Method} {c : Code} {T T' : State} {locs : List Loc} {cells slots : Nat} {Z : State} {a0 : Array Value} {h : Heap} {P : State → Prop} {pc q : Nat} {Ls : Array Slot} {S : List Value} {g g' : JFrame}
/-- from this state on the run comes to one of which P holds -/
def Go (p : Program) (e : Env) (below : List Frame) (P : State → Prop) (T : State) (g : JFrame) : Prop := ∃ n, Steps p.tables e below (T.setTop g) n ∧ P n
theorem Go.by_ (k : ∀ t, Steps p.tables e below (T'.setTop g') t → Steps p.tables e below (T.setTop g) t) (h : Go p e below P T' g') : Go p e below P T g := by
  obtain ⟨n, a, b⟩ := h; exact ⟨n, k n a, b⟩
theorem Go.tr (k : Steps p.tables e below (T.setTop g) (T'.setTop g')) (h : Go p e below P T' g') : Go p e below P T g := by
  obtain ⟨n, a, b⟩ := h; exact ⟨n, k.trans a, b⟩
/-- what the whole body knows of its method -/
def Kt (p : Program) (Z s : State) (m : MethodId) (meth : Method) (c : Code) (y : MethodName) (bytes : ByteArray) (maxL : Nat) (ret : Option FieldType) : Prop :=
  p.tables.exec = Jvm.exec ∧ Z.Warmed39 s.vm ∧ c.code = bytes ∧ c.maxLocals = maxL ∧ s.vm.findClass y.cls = some m.cls ∧ meth.sig.returnType = ret ∧ meth.locks = false ∧ meth.name = y.name ∧ s.methodNamed? y = some m
variable {y : MethodName} {bytes : ByteArray} {maxL : Nat} {ret : Option FieldType}
theorem Kt.x (K : Kt p Z s m meth c y bytes maxL ret) : p.tables.exec = Jvm.exec := K.1
theorem Kt.z (K : Kt p Z s m meth c y bytes maxL ret) : Z.Warmed39 s.vm := K.2.1
theorem Kt.ml (K : Kt p Z s m meth c y bytes maxL ret) : c.maxLocals = maxL := K.2.2.2.1
theorem Kt.own (K : Kt p Z s m meth c y bytes maxL ret) : s.vm.findClass y.cls = some m.cls := K.2.2.2.2.1
theorem Kt.rt (K : Kt p Z s m meth c y bytes maxL ret) : meth.sig.returnType = ret := K.2.2.2.2.2.1
theorem Kt.lk (K : Kt p Z s m meth c y bytes maxL ret) : meth.locks = false := K.2.2.2.2.2.2.1
theorem Kt.nm (K : Kt p Z s m meth c y bytes maxL ret) : meth.name = y.name := K.2.2.2.2.2.2.2.1
theorem Kt.named (K : Kt p Z s m meth c y bytes maxL ret) : s.methodNamed? y = some m := K.2.2.2.2.2.2.2.2
theorem Kt.d (K : Kt p Z s m meth c y bytes maxL ret) {r : Except DecodeError (Instr × Nat)} (h : decode bytes pc = r) : decode c.code pc = r := by rw [K.2.2.1]; exact h
/-- the end of a body -/
def Done (s : State) (below : List Frame) (Q : Option Value → Heap → List Loc → Prop) (kc ks : Nat) (n : State) : Prop :=
  ∃ o, n.status = .running ∧ Ended n below o ∧ ∃ v L, o = .returned v ∧ Q v n.heap L ∧ FrameEnd s o n L kc ks
/-- a body's contract -/
def Mt (l : Launch) (Z : State) (y : MethodName) (bytes : ByteArray) (maxL : Nat) (ret : Option FieldType) (ws : List Jvm.Cond) (rm : Room) (as' : Array Value) (h0 : Heap) (Q : Option Value → Heap → List Loc → Prop) : Prop :=
  MetFree l y (head1 (Jvm.Cond.code y bytes maxL ret :: ws) rm) (fun a U => a = as' ∧ Z.Warmed39 U.vm ∧ U.heap = h0) (fun _ _ _ _ _ => True) (fun _ U o U' => ∃ v L, o = .returned v ∧ Q v U'.heap L ∧ FrameEnd U o U' L rm.cells rm.slots)
theorem g_body {ws : List Jvm.Cond} {rm : Room} {as' : Array Value} {h0 : Heap} {Q : Option Value → Heap → List Loc → Prop} (hpl : plainFor y = true)
    (H : ∀ (p : Program) (e : Env) (s : State) (m : MethodId) (below : List Frame) (meth : Method) (c : Code) (T : State), Kt p Z s m meth c y bytes maxL ret → Stand p l e rm s m as' below meth c T [] 0 0 → T.heap = h0 → Go p e below (Done s below Q rm.cells rm.slots) T (entryFrame m as' maxL)) :
    Mt l Z y bytes maxL ret ws rm as' h0 Q := by
  refine MetFree.of_bodySF hpl hisR ?_
  intro p e s m args below meth c s₁ Bd hml0 hP hK
  obtain ⟨rfl, hZ, hh⟩ := hP
  obtain ⟨n, a, o, b1, b2, b3⟩ := H p e s m below meth c s₁ ⟨Bd.exec, hZ, Bd.bytes, hml0, findClass_of_methodNamed Bd.named, Bd.returns, BodyLoose.notSynchronized Bd, (name_of_methodNamed Bd.named Bd.method).1, Bd.named⟩ (Stand.of_body Bd) (by rw [← hh, Bd.state]; rfl)
  exact ⟨n, o, a, b1, b2, b3⟩
variable {Q : Option Value → Heap → List Loc → Prop} {kc ks : Nat}
theorem g_entry (q : g = g') (h : Go p e below P T g') : Go p e below P T g := q ▸ h
/-! returns -/
theorem g_ret (X : Stand p l e R s m args below meth c T locs cells slots) (K : Kt p Z s m meth c y bytes maxL none) (hd : decode bytes pc = .ok (.return_, 1)) (hc : cells ≤ kc) (hs : slots ≤ ks) (hQ : Q none T.heap locs) : Go p e below (Done s below Q kc ks) T (mkF m pc Ls []) := by
  obtain ⟨fs, hr, hrun, hended, hW, hsame⟩ := X.leave (v := none) (fun _ => rfl) K.lk
  exact ⟨_, X.returnOut K.x K.rt (K.d hd) hr, _, hrun, hended, _, _, rfl, hQ, ⟨_, rfl⟩, hW, hsame.mono hc hs⟩
theorem g_iret (X : Stand p l e R s m args below meth c T locs cells slots) (K : Kt p Z s m meth c y bytes maxL (some .int)) {z : Int32} (hd : decode bytes pc = .ok (.ireturn, 1)) (hc : cells ≤ kc) (hs : slots ≤ ks) (hQ : Q (some (.int z)) T.heap locs) : Go p e below (Done s below Q kc ks) T (mkF m pc Ls (.int z :: S)) := by
  obtain ⟨fs, hr, hrun, hended, hW, hsame⟩ := X.leave (v := some (.int z)) (fun h => by rw [K.rt] at h; cases h) K.lk
  exact ⟨_, retOut X K.x K.rt rfl (Or.inl ⟨rfl, Or.inl rfl, z, rfl⟩) (K.d hd) hr, _, hrun, hended, _, _, rfl, hQ, ⟨_, rfl⟩, hW, hsame.mono hc hs⟩
theorem g_nret {t : FieldType} (X : Stand p l e R s m args below meth c T locs cells slots) (K : Kt p Z s m meth c y bytes maxL (some t)) (ht : t = .boolean ∨ t = .byte ∨ t = .char ∨ t = .short) {z z' : Int32} (hn : nar t z = z') (hd : decode bytes pc = .ok (.ireturn, 1)) (hc : cells ≤ kc) (hs : slots ≤ ks) (hQ : Q (some (.int z')) T.heap locs) : Go p e below (Done s below Q kc ks) T (mkF m pc Ls (.int z :: S)) := by
  subst hn
  obtain ⟨fs, hr, hrun, hended, hW, hsame⟩ := X.leave (v := some (.int (nar t z))) (fun h => by rw [K.rt] at h; cases h) K.lk
  exact ⟨_, retN X K.x K.rt ht (K.d hd) hr, _, hrun, hended, _, _, rfl, hQ, ⟨_, rfl⟩, hW, hsame.mono hc hs⟩
theorem g_lret (X : Stand p l e R s m args below meth c T locs cells slots) (K : Kt p Z s m meth c y bytes maxL (some .long)) {z : Int64} (hd : decode bytes pc = .ok (.lreturn, 1)) (hc : cells ≤ kc) (hs : slots ≤ ks) (hQ : Q (some (.long z)) T.heap locs) : Go p e below (Done s below Q kc ks) T (mkF m pc Ls (.long z :: S)) := by
  obtain ⟨fs, hr, hrun, hended, hW, hsame⟩ := X.leave (v := some (.long z)) (fun h => by rw [K.rt] at h; cases h) K.lk
  exact ⟨_, retOut X K.x K.rt rfl (Or.inr (Or.inl ⟨rfl, rfl, z, rfl⟩)) (K.d hd) hr, _, hrun, hended, _, _, rfl, hQ, ⟨_, rfl⟩, hW, hsame.mono hc hs⟩
theorem g_aret {t : FieldType} {w : Value} (X : Stand p l e R s m args below meth c T locs cells slots) (K : Kt p Z s m meth c y bytes maxL (some t)) (ht : t.isReference = true) (hw : w.isRef = true) (hn : narrow t w = w) (hd : decode bytes pc = .ok (.areturn, 1)) (hc : cells ≤ kc) (hs : slots ≤ ks) (hQ : Q (some w) T.heap locs) : Go p e below (Done s below Q kc ks) T (mkF m pc Ls (w :: S)) := by
  obtain ⟨fs, hr, hrun, hended, hW, hsame⟩ := X.leave (v := some w) (fun h => by rw [K.rt] at h; cases h) K.lk
  exact ⟨_, retOut X K.x K.rt hn (Or.inr (Or.inr (Or.inr (Or.inr ⟨rfl, ht, hw⟩)))) (K.d hd) hr, _, hrun, hended, _, _, rfl, hQ, ⟨_, rfl⟩, hW, hsame.mono hc hs⟩
/-! plain steps -/
section Plain
theorem g_iloadN (X : Stand p l e R s m args below meth c T locs cells slots) (K : Kt p Z s m meth c y bytes maxL ret) {k : Fin 4} {v : Int32} (hd : decode bytes pc = .ok (.iload_n k, 1)) (hl : Ls[k.val]? = some (.val (.int v))) (hq : pc + 1 = q) (h : Go p e below P T (mkF m q Ls (.int v :: S))) : Go p e below P T (mkF m pc Ls S) := by
  subst hq; exact Go.by_ (fun t k => XS.iloadN X.here K.x rfl (K.d hd) hl k) h
theorem g_iload (X : Stand p l e R s m args below meth c T locs cells slots) (K : Kt p Z s m meth c y bytes maxL ret) {k : Nat} {v : Int32} (hd : decode bytes pc = .ok (.iload k, 2)) (hl : Ls[k]? = some (.val (.int v))) (hq : pc + 2 = q) (h : Go p e below P T (mkF m q Ls (.int v :: S))) : Go p e below P T (mkF m pc Ls S) := by
  subst hq; exact Go.by_ (fun t k => XS.iload X.here K.x rfl (K.d hd) hl k) h
theorem g_lloadN (X : Stand p l e R s m args below meth c T locs cells slots) (K : Kt p Z s m meth c y bytes maxL ret) {k : Fin 4} {v : Int64} (hd : decode bytes pc = .ok (.lload_n k, 1)) (hl : Ls[k.val]? = some (.val (.long v))) (hq : pc + 1 = q) (h : Go p e below P T (mkF m q Ls (.long v :: S))) : Go p e below P T (mkF m pc Ls S) := by
  subst hq; exact Go.by_ (fun t k => XS.lloadN X.here K.x rfl (K.d hd) hl k) h
theorem g_lload (X : Stand p l e R s m args below meth c T locs cells slots) (K : Kt p Z s m meth c y bytes maxL ret) {k : Nat} {v : Int64} (hd : decode bytes pc = .ok (.lload k, 2)) (hl : Ls[k]? = some (.val (.long v))) (hq : pc + 2 = q) (h : Go p e below P T (mkF m q Ls (.long v :: S))) : Go p e below P T (mkF m pc Ls S) := by
  subst hq; exact Go.by_ (fun t k => XS.lload X.here K.x rfl (K.d hd) hl k) h
theorem g_aloadN (X : Stand p l e R s m args below meth c T locs cells slots) (K : Kt p Z s m meth c y bytes maxL ret) {k : Fin 4} {v : Value} (hd : decode bytes pc = .ok (.aload_n k, 1)) (hl : Ls[k.val]? = some (.val v)) (hv : v.isRef = true) (hq : pc + 1 = q) (h : Go p e below P T (mkF m q Ls (v :: S))) : Go p e below P T (mkF m pc Ls S) := by
  subst hq; exact Go.by_ (fun t k => XS.aloadN X.here K.x rfl (K.d hd) hl hv k) h
theorem g_aload (X : Stand p l e R s m args below meth c T locs cells slots) (K : Kt p Z s m meth c y bytes maxL ret) {k : Nat} {v : Value} (hd : decode bytes pc = .ok (.aload k, 2)) (hl : Ls[k]? = some (.val v)) (hv : v.isRef = true) (hq : pc + 2 = q) (h : Go p e below P T (mkF m q Ls (v :: S))) : Go p e below P T (mkF m pc Ls S) := by
  subst hq; exact Go.by_ (fun t k => XS.aload X.here K.x rfl (K.d hd) hl hv k) h
theorem g_istoreN (X : Stand p l e R s m args below meth c T locs cells slots) (K : Kt p Z s m meth c y bytes maxL ret) {k : Fin 4} {v : Int32} {L' : Array Slot} (hd : decode bytes pc = .ok (.istore_n k, 1)) (hl : storeLocals Ls k.val (.int v) = some L') (hq : pc + 1 = q) (h : Go p e below P T (mkF m q L' S)) : Go p e below P T (mkF m pc Ls (.int v :: S)) := by
  subst hq; exact Go.by_ (fun t k => XS.istoreN X.here K.x rfl (K.d hd) rfl hl k) h
theorem g_istore (X : Stand p l e R s m args below meth c T locs cells slots) (K : Kt p Z s m meth c y bytes maxL ret) {k : Nat} {v : Int32} {L' : Array Slot} (hd : decode bytes pc = .ok (.istore k, 2)) (hl : storeLocals Ls k (.int v) = some L') (hq : pc + 2 = q) (h : Go p e below P T (mkF m q L' S)) : Go p e below P T (mkF m pc Ls (.int v :: S)) := by
  subst hq; exact Go.by_ (fun t k => XS.istore X.here K.x rfl (K.d hd) rfl hl k) h
theorem g_lstoreN (X : Stand p l e R s m args below meth c T locs cells slots) (K : Kt p Z s m meth c y bytes maxL ret) {k : Fin 4} {v : Int64} {L' : Array Slot} (hd : decode bytes pc = .ok (.lstore_n k, 1)) (hl : storeLocals Ls k.val (.long v) = some L') (hq : pc + 1 = q) (h : Go p e below P T (mkF m q L' S)) : Go p e below P T (mkF m pc Ls (.long v :: S)) := by
  subst hq; exact Go.by_ (fun t k => XS.lstoreN X.here K.x rfl (K.d hd) rfl hl k) h
theorem g_lstore (X : Stand p l e R s m args below meth c T locs cells slots) (K : Kt p Z s m meth c y bytes maxL ret) {k : Nat} {v : Int64} {L' : Array Slot} (hd : decode bytes pc = .ok (.lstore k, 2)) (hl : storeLocals Ls k (.long v) = some L') (hq : pc + 2 = q) (h : Go p e below P T (mkF m q L' S)) : Go p e below P T (mkF m pc Ls (.long v :: S)) := by
  subst hq; exact Go.by_ (fun t k => XS.lstore X.here K.x rfl (K.d hd) rfl hl k) h
theorem g_astoreN (X : Stand p l e R s m args below meth c T locs cells slots) (K : Kt p Z s m meth c y bytes maxL ret) {k : Fin 4} {v : Value} {L' : Array Slot} (hd : decode bytes pc = .ok (.astore_n k, 1)) (hv : v.isRef = true) (hl : storeLocals Ls k.val v = some L') (hq : pc + 1 = q) (h : Go p e below P T (mkF m q L' S)) : Go p e below P T (mkF m pc Ls (v :: S)) := by
  subst hq; exact Go.by_ (fun t k => XS.astoreN X.here K.x rfl (K.d hd) rfl hv hl k) h
theorem g_astore (X : Stand p l e R s m args below meth c T locs cells slots) (K : Kt p Z s m meth c y bytes maxL ret) {k : Nat} {v : Value} {L' : Array Slot} (hd : decode bytes pc = .ok (.astore k, 2)) (hv : v.isRef = true) (hl : storeLocals Ls k v = some L') (hq : pc + 2 = q) (h : Go p e below P T (mkF m q L' S)) : Go p e below P T (mkF m pc Ls (v :: S)) := by
  subst hq; exact Go.by_ (fun t k => XS.astore X.here K.x rfl (K.d hd) rfl hv hl k) h
theorem g_iconst (X : Stand p l e R s m args below meth c T locs cells slots) (K : Kt p Z s m meth c y bytes maxL ret) {i : Int} {v : Int32} (hd : decode bytes pc = .ok (.iconst i, 1)) (hv : Int32.ofInt i = v) (hq : pc + 1 = q) (h : Go p e below P T (mkF m q Ls (.int v :: S))) : Go p e below P T (mkF m pc Ls S) := by
  subst hq hv; exact Go.by_ (fun t k => XS.iconst X.here K.x rfl (K.d hd) k) h
theorem g_bipush (X : Stand p l e R s m args below meth c T locs cells slots) (K : Kt p Z s m meth c y bytes maxL ret) {i : Int} {v : Int32} (hd : decode bytes pc = .ok (.bipush i, 2)) (hv : (Int8.ofInt i).toInt32 = v) (hq : pc + 2 = q) (h : Go p e below P T (mkF m q Ls (.int v :: S))) : Go p e below P T (mkF m pc Ls S) := by
  subst hq hv; exact Go.by_ (fun t k => XS.bipush X.here K.x rfl (K.d hd) k) h
theorem g_sipush (X : Stand p l e R s m args below meth c T locs cells slots) (K : Kt p Z s m meth c y bytes maxL ret) {i : Int} {v : Int32} (hd : decode bytes pc = .ok (.sipush i, 3)) (hv : (Int16.ofInt i).toInt32 = v) (hq : pc + 3 = q) (h : Go p e below P T (mkF m q Ls (.int v :: S))) : Go p e below P T (mkF m pc Ls S) := by
  subst hq hv; exact Go.by_ (fun t k => XS.sipush X.here K.x rfl (K.d hd) k) h
theorem g_null (X : Stand p l e R s m args below meth c T locs cells slots) (K : Kt p Z s m meth c y bytes maxL ret) (hd : decode bytes pc = .ok (.aconst_null, 1)) (hq : pc + 1 = q) (h : Go p e below P T (mkF m q Ls (.null :: S))) : Go p e below P T (mkF m pc Ls S) := by
  subst hq; exact Go.by_ (fun t k => XS.aconstNull X.here K.x rfl (K.d hd) k) h
theorem g_iadd (X : Stand p l e R s m args below meth c T locs cells slots) (K : Kt p Z s m meth c y bytes maxL ret) {x y z : Int32} (hd : decode bytes pc = .ok (.iadd, 1)) (hz : x + y = z) (hq : pc + 1 = q) (h : Go p e below P T (mkF m q Ls (.int z :: S))) : Go p e below P T (mkF m pc Ls (.int y :: .int x :: S)) := by
  subst hq hz; exact Go.by_ (fun t k => XS.iadd X.here K.x rfl (K.d hd) rfl k) h
theorem g_isub (X : Stand p l e R s m args below meth c T locs cells slots) (K : Kt p Z s m meth c y bytes maxL ret) {x y z : Int32} (hd : decode bytes pc = .ok (.isub, 1)) (hz : x - y = z) (hq : pc + 1 = q) (h : Go p e below P T (mkF m q Ls (.int z :: S))) : Go p e below P T (mkF m pc Ls (.int y :: .int x :: S)) := by
  subst hq hz; exact Go.by_ (fun t k => XS.isub X.here K.x rfl (K.d hd) rfl k) h
theorem g_imul (X : Stand p l e R s m args below meth c T locs cells slots) (K : Kt p Z s m meth c y bytes maxL ret) {x y z : Int32} (hd : decode bytes pc = .ok (.imul, 1)) (hz : x * y = z) (hq : pc + 1 = q) (h : Go p e below P T (mkF m q Ls (.int z :: S))) : Go p e below P T (mkF m pc Ls (.int y :: .int x :: S)) := by
  subst hq hz; exact Go.by_ (fun t k => XS.imul X.here K.x rfl (K.d hd) rfl k) h
theorem g_iand (X : Stand p l e R s m args below meth c T locs cells slots) (K : Kt p Z s m meth c y bytes maxL ret) {x y z : Int32} (hd : decode bytes pc = .ok (.iand, 1)) (hz : x &&& y = z) (hq : pc + 1 = q) (h : Go p e below P T (mkF m q Ls (.int z :: S))) : Go p e below P T (mkF m pc Ls (.int y :: .int x :: S)) := by
  subst hq hz; exact Go.by_ (fun t k => XS.iand X.here K.x rfl (K.d hd) rfl k) h
theorem g_ior (X : Stand p l e R s m args below meth c T locs cells slots) (K : Kt p Z s m meth c y bytes maxL ret) {x y z : Int32} (hd : decode bytes pc = .ok (.ior, 1)) (hz : x ||| y = z) (hq : pc + 1 = q) (h : Go p e below P T (mkF m q Ls (.int z :: S))) : Go p e below P T (mkF m pc Ls (.int y :: .int x :: S)) := by
  subst hq hz; exact Go.by_ (fun t k => XS.ior X.here K.x rfl (K.d hd) rfl k) h
theorem g_ixor (X : Stand p l e R s m args below meth c T locs cells slots) (K : Kt p Z s m meth c y bytes maxL ret) {x y z : Int32} (hd : decode bytes pc = .ok (.ixor, 1)) (hz : x ^^^ y = z) (hq : pc + 1 = q) (h : Go p e below P T (mkF m q Ls (.int z :: S))) : Go p e below P T (mkF m pc Ls (.int y :: .int x :: S)) := by
  subst hq hz; exact Go.by_ (fun t k => XS.ixor X.here K.x rfl (K.d hd) rfl k) h
theorem g_ishl (X : Stand p l e R s m args below meth c T locs cells slots) (K : Kt p Z s m meth c y bytes maxL ret) {x y z : Int32} (hd : decode bytes pc = .ok (.ishl, 1)) (hz : x <<< (y &&& 31) = z) (hq : pc + 1 = q) (h : Go p e below P T (mkF m q Ls (.int z :: S))) : Go p e below P T (mkF m pc Ls (.int y :: .int x :: S)) := by
  subst hq hz; exact Go.by_ (fun t k => XS.ishl X.here K.x rfl (K.d hd) rfl k) h
theorem g_ishr (X : Stand p l e R s m args below meth c T locs cells slots) (K : Kt p Z s m meth c y bytes maxL ret) {x y z : Int32} (hd : decode bytes pc = .ok (.ishr, 1)) (hz : x >>> (y &&& 31) = z) (hq : pc + 1 = q) (h : Go p e below P T (mkF m q Ls (.int z :: S))) : Go p e below P T (mkF m pc Ls (.int y :: .int x :: S)) := by
  subst hq hz; exact Go.by_ (fun t k => XS.ishr X.here K.x rfl (K.d hd) rfl k) h
theorem g_iushr (X : Stand p l e R s m args below meth c T locs cells slots) (K : Kt p Z s m meth c y bytes maxL ret) {x y z : Int32} (hd : decode bytes pc = .ok (.iushr, 1)) (hz : (x.toUInt32 >>> (y &&& 31).toUInt32).toInt32 = z) (hq : pc + 1 = q) (h : Go p e below P T (mkF m q Ls (.int z :: S))) : Go p e below P T (mkF m pc Ls (.int y :: .int x :: S)) := by
  subst hq hz; exact Go.by_ (fun t k => XS.iushr X.here K.x rfl (K.d hd) rfl k) h
theorem g_irem (X : Stand p l e R s m args below meth c T locs cells slots) (K : Kt p Z s m meth c y bytes maxL ret) {x y z : Int32} (hd : decode bytes pc = .ok (.irem, 1)) (hy : y ≠ 0) (hz : x % y = z) (hq : pc + 1 = q) (h : Go p e below P T (mkF m q Ls (.int z :: S))) : Go p e below P T (mkF m pc Ls (.int y :: .int x :: S)) := by
  subst hq hz; exact Go.by_ (fun t k => iremM X K.x rfl (K.d hd) rfl hy k) h
theorem g_idiv (X : Stand p l e R s m args below meth c T locs cells slots) (K : Kt p Z s m meth c y bytes maxL ret) {x y z : Int32} (hd : decode bytes pc = .ok (.idiv, 1)) (hy : y ≠ 0) (hz : x / y = z) (hq : pc + 1 = q) (h : Go p e below P T (mkF m q Ls (.int z :: S))) : Go p e below P T (mkF m pc Ls (.int y :: .int x :: S)) := by
  subst hq hz; exact Go.by_ (fun t k => XS.idiv X.here K.x rfl (K.d hd) rfl hy k) h
theorem g_ineg (X : Stand p l e R s m args below meth c T locs cells slots) (K : Kt p Z s m meth c y bytes maxL ret) {x z : Int32} (hd : decode bytes pc = .ok (.ineg, 1)) (hz : -x = z) (hq : pc + 1 = q) (h : Go p e below P T (mkF m q Ls (.int z :: S))) : Go p e below P T (mkF m pc Ls (.int x :: S)) := by
  subst hq hz; exact Go.by_ (fun t k => XS.ineg X.here K.x rfl (K.d hd) rfl k) h
theorem g_i2b (X : Stand p l e R s m args below meth c T locs cells slots) (K : Kt p Z s m meth c y bytes maxL ret) {x z : Int32} (hd : decode bytes pc = .ok (.i2b, 1)) (hz : x.toInt8.toInt32 = z) (hq : pc + 1 = q) (h : Go p e below P T (mkF m q Ls (.int z :: S))) : Go p e below P T (mkF m pc Ls (.int x :: S)) := by
  subst hq hz; exact Go.by_ (fun t k => XS.i2b X.here K.x rfl (K.d hd) rfl k) h
theorem g_i2c (X : Stand p l e R s m args below meth c T locs cells slots) (K : Kt p Z s m meth c y bytes maxL ret) {x z : Int32} (hd : decode bytes pc = .ok (.i2c, 1)) (hz : x.toUInt32.toUInt16.toUInt32.toInt32 = z) (hq : pc + 1 = q) (h : Go p e below P T (mkF m q Ls (.int z :: S))) : Go p e below P T (mkF m pc Ls (.int x :: S)) := by
  subst hq hz; exact Go.by_ (fun t k => XS.i2c X.here K.x rfl (K.d hd) rfl k) h
theorem g_i2l (X : Stand p l e R s m args below meth c T locs cells slots) (K : Kt p Z s m meth c y bytes maxL ret) {x : Int32} {z : Int64} (hd : decode bytes pc = .ok (.i2l, 1)) (hz : x.toInt64 = z) (hq : pc + 1 = q) (h : Go p e below P T (mkF m q Ls (.long z :: S))) : Go p e below P T (mkF m pc Ls (.int x :: S)) := by
  subst hq hz; exact Go.by_ (fun t k => XS.i2l X.here K.x rfl (K.d hd) rfl k) h
theorem g_lconst (X : Stand p l e R s m args below meth c T locs cells slots) (K : Kt p Z s m meth c y bytes maxL ret) {k : Fin 2} {v : Int64} (hd : decode bytes pc = .ok (.lconst k, 1)) (hv : Int64.ofInt k.val = v) (hq : pc + 1 = q) (h : Go p e below P T (mkF m q Ls (.long v :: S))) : Go p e below P T (mkF m pc Ls S) := by
  subst hq hv; exact Go.by_ (fun t k => XS.lconst X.here K.x rfl (K.d hd) k) h
theorem g_lsub (X : Stand p l e R s m args below meth c T locs cells slots) (K : Kt p Z s m meth c y bytes maxL ret) {x y z : Int64} (hd : decode bytes pc = .ok (.lsub, 1)) (hz : x - y = z) (hq : pc + 1 = q) (h : Go p e below P T (mkF m q Ls (.long z :: S))) : Go p e below P T (mkF m pc Ls (.long y :: .long x :: S)) := by
  subst hq hz; exact Go.by_ (fun t k => XS.lsub X.here K.x rfl (K.d hd) rfl k) h
theorem g_lshl (X : Stand p l e R s m args below meth c T locs cells slots) (K : Kt p Z s m meth c y bytes maxL ret) {x z : Int64} {y : Int32} (hd : decode bytes pc = .ok (.lshl, 1)) (hz : x <<< (y &&& 0x3f).toInt64 = z) (hq : pc + 1 = q) (h : Go p e below P T (mkF m q Ls (.long z :: S))) : Go p e below P T (mkF m pc Ls (.int y :: .long x :: S)) := by
  subst hq hz; exact Go.by_ (fun t k => XS.lshl X.here K.x rfl (K.d hd) rfl k) h
theorem g_lcmp (X : Stand p l e R s m args below meth c T locs cells slots) (K : Kt p Z s m meth c y bytes maxL ret) {x y : Int64} {z : Int32} (hd : decode bytes pc = .ok (.lcmp, 1)) (hz : lcmpW x y = z) (hq : pc + 1 = q) (h : Go p e below P T (mkF m q Ls (.int z :: S))) : Go p e below P T (mkF m pc Ls (.long y :: .long x :: S)) := by
  subst hq hz; exact Go.by_ (fun t k => XS.lcmp X.here K.x rfl (K.d hd) rfl k) h
theorem g_iinc (X : Stand p l e R s m args below meth c T locs cells slots) (K : Kt p Z s m meth c y bytes maxL ret) {k : Nat} {cst : Int} {x z : Int32} {L' : Array Slot} (hd : decode bytes pc = .ok (.iinc k cst, 3)) (hl : Ls[k]? = some (.val (.int x))) (hz : x + Int32.ofInt cst = z) (hl' : storeLocals Ls k (.int z) = some L') (hq : pc + 3 = q) (h : Go p e below P T (mkF m q L' S)) : Go p e below P T (mkF m pc Ls S) := by
  subst hq hz; exact Go.by_ (fun t k => XS.iinc X.here K.x rfl (K.d hd) hl hl' k) h
theorem g_dup (X : Stand p l e R s m args below meth c T locs cells slots) (K : Kt p Z s m meth c y bytes maxL ret) {x : Value} (hd : decode bytes pc = .ok (.dup, 1)) (hc : x.category = 1) (hq : pc + 1 = q) (h : Go p e below P T (mkF m q Ls (x :: x :: S))) : Go p e below P T (mkF m pc Ls (x :: S)) := by
  subst hq; exact Go.by_ (fun t k => XS.dup X.here K.x rfl (K.d hd) rfl hc k) h
theorem g_dupX1 (X : Stand p l e R s m args below meth c T locs cells slots) (K : Kt p Z s m meth c y bytes maxL ret) {x y : Value} (hd : decode bytes pc = .ok (.dup_x1, 1)) (hc : x.category = 1) (hc' : y.category = 1) (hq : pc + 1 = q) (h : Go p e below P T (mkF m q Ls (x :: y :: x :: S))) : Go p e below P T (mkF m pc Ls (x :: y :: S)) := by
  subst hq; exact Go.by_ (fun t k => XS.dupX1 X.here K.x rfl (K.d hd) rfl hc hc' k) h
theorem g_dup2 (X : Stand p l e R s m args below meth c T locs cells slots) (K : Kt p Z s m meth c y bytes maxL ret) {x y : Value} (hd : decode bytes pc = .ok (.dup2, 1)) (hc : x.category = 1) (hc' : y.category = 1) (hq : pc + 1 = q) (h : Go p e below P T (mkF m q Ls (x :: y :: x :: y :: S))) : Go p e below P T (mkF m pc Ls (x :: y :: S)) := by
  subst hq; exact Go.by_ (fun t k => XT.dup2 X.here K.x rfl (K.d hd) rfl hc hc' k) h
theorem g_pop (X : Stand p l e R s m args below meth c T locs cells slots) (K : Kt p Z s m meth c y bytes maxL ret) {x : Value} (hd : decode bytes pc = .ok (.pop, 1)) (hc : x.category = 1) (hq : pc + 1 = q) (h : Go p e below P T (mkF m q Ls S)) : Go p e below P T (mkF m pc Ls (x :: S)) := by
  subst hq; exact Go.by_ (fun t k => XS.pop X.here K.x rfl (K.d hd) rfl hc k) h
theorem g_goto (X : Stand p l e R s m args below meth c T locs cells slots) (K : Kt p Z s m meth c y bytes maxL ret) {o : Int} (hd : decode bytes pc = .ok (.goto o, 3)) (ho : 0 ≤ (pc : Int) + o) (hq : ((pc : Int) + o).toNat = q) (h : Go p e below P T (mkF m q Ls S)) : Go p e below P T (mkF m pc Ls S) :=
  Go.by_ (fun t k => XS.goto X.here K.x rfl rfl (K.d hd) ho hq k) h
theorem g_ifY (X : Stand p l e R s m args below meth c T locs cells slots) (K : Kt p Z s m meth c y bytes maxL ret) {cd : ClassFile.Cond} {x : Int32} {o : Int} (hd : decode bytes pc = .ok (.ifCond cd o, 3)) (hc : if_icmp.holds cd x 0 = true) (ho : 0 ≤ (pc : Int) + o) (hq : ((pc : Int) + o).toNat = q) (h : Go p e below P T (mkF m q Ls S)) : Go p e below P T (mkF m pc Ls (.int x :: S)) :=
  Go.by_ (fun t k => XS.ifYes X.here K.x rfl rfl (K.d hd) rfl ((if0 _ _).trans hc) ho hq k) h
theorem g_ifN (X : Stand p l e R s m args below meth c T locs cells slots) (K : Kt p Z s m meth c y bytes maxL ret) {cd : ClassFile.Cond} {x : Int32} {o : Int} (hd : decode bytes pc = .ok (.ifCond cd o, 3)) (hc : if_icmp.holds cd x 0 = false) (hq : pc + 3 = q) (h : Go p e below P T (mkF m q Ls S)) : Go p e below P T (mkF m pc Ls (.int x :: S)) := by
  subst hq; exact Go.by_ (fun t k => XS.ifNo X.here K.x rfl (K.d hd) rfl ((if0 _ _).trans hc) k) h
theorem g_icY (X : Stand p l e R s m args below meth c T locs cells slots) (K : Kt p Z s m meth c y bytes maxL ret) {cd : ClassFile.Cond} {x y : Int32} {o : Int} (hd : decode bytes pc = .ok (.if_icmp cd o, 3)) (hc : if_icmp.holds cd x y = true) (ho : 0 ≤ (pc : Int) + o) (hq : ((pc : Int) + o).toNat = q) (h : Go p e below P T (mkF m q Ls S)) : Go p e below P T (mkF m pc Ls (.int y :: .int x :: S)) :=
  Go.by_ (fun t k => XS.icmpYes X.here K.x rfl rfl (K.d hd) rfl hc ho hq k) h
theorem g_icN (X : Stand p l e R s m args below meth c T locs cells slots) (K : Kt p Z s m meth c y bytes maxL ret) {cd : ClassFile.Cond} {x y : Int32} {o : Int} (hd : decode bytes pc = .ok (.if_icmp cd o, 3)) (hc : if_icmp.holds cd x y = false) (hq : pc + 3 = q) (h : Go p e below P T (mkF m q Ls S)) : Go p e below P T (mkF m pc Ls (.int y :: .int x :: S)) := by
  subst hq; exact Go.by_ (fun t k => XS.icmpNo X.here K.x rfl (K.d hd) rfl hc k) h
theorem g_ac (X : Stand p l e R s m args below meth c T locs cells slots) (K : Kt p Z s m meth c y bytes maxL ret) {cd : ACond} {x y : Value} {o : Int} {same : Bool} (hd : decode bytes pc = .ok (.if_acmp cd o, 3)) (h1 : x.isRef = true) (h2 : y.isRef = true) (hs : decide (x = y) = same) (ho : 0 ≤ (pc : Int) + o) (hq : q = if acV cd same = true then ((pc : Int) + o).toNat else pc + 3) (h : Go p e below P T (mkF m q Ls S)) : Go p e below P T (mkF m pc Ls (y :: x :: S)) :=
  Go.by_ (fun t k => acmp X K.x rfl h1 h2 rfl (K.d hd) rfl hs ho hq k) h
theorem g_nullY (X : Stand p l e R s m args below meth c T locs cells slots) (K : Kt p Z s m meth c y bytes maxL ret) {o : Int} (hd : decode bytes pc = .ok (.ifnull o, 3)) (ho : 0 ≤ (pc : Int) + o) (hq : ((pc : Int) + o).toNat = q) (h : Go p e below P T (mkF m q Ls S)) : Go p e below P T (mkF m pc Ls (.null :: S)) :=
  Go.by_ (fun t k => XS.ifnullYes X.here K.x rfl rfl (K.d hd) rfl ho hq k) h
theorem g_nullN (X : Stand p l e R s m args below meth c T locs cells slots) (K : Kt p Z s m meth c y bytes maxL ret) {o : Int} {b : Addr} (hd : decode bytes pc = .ok (.ifnull o, 3)) (hq : pc + 3 = q) (h : Go p e below P T (mkF m q Ls S)) : Go p e below P T (mkF m pc Ls (.ref b :: S)) := by
  subst hq; exact Go.by_ (fun t k => XS.ifnullNo X.here K.x rfl (K.d hd) rfl k) h
theorem g_nonnullY (X : Stand p l e R s m args below meth c T locs cells slots) (K : Kt p Z s m meth c y bytes maxL ret) {o : Int} {b : Addr} (hd : decode bytes pc = .ok (.ifnonnull o, 3)) (ho : 0 ≤ (pc : Int) + o) (hq : ((pc : Int) + o).toNat = q) (h : Go p e below P T (mkF m q Ls S)) : Go p e below P T (mkF m pc Ls (.ref b :: S)) :=
  Go.by_ (fun t k => XS.ifnonnullYes X.here K.x rfl rfl (K.d hd) rfl ho hq k) h
theorem g_nonnullN (X : Stand p l e R s m args below meth c T locs cells slots) (K : Kt p Z s m meth c y bytes maxL ret) {o : Int} (hd : decode bytes pc = .ok (.ifnonnull o, 3)) (hq : pc + 3 = q) (h : Go p e below P T (mkF m q Ls S)) : Go p e below P T (mkF m pc Ls (.null :: S)) := by
  subst hq; exact Go.by_ (fun t k => XS.ifnonnullNo X.here K.x rfl (K.d hd) rfl k) h
theorem g_ldc (X : Stand p l e R s m args below meth c T locs cells slots) (K : Kt p Z s m meth c y bytes maxL ret) {index : Nat} {v : Int32} (w : (Jvm.Cond.constant y.cls index v).before a0 Z = true) (hd : decode bytes pc = .ok (.ldc index, 2)) (hq : pc + 2 = q) (h : Go p e below P T (mkF m q Ls (.int v :: S))) : Go p e below P T (mkF m pc Ls S) := by
  subst hq; exact Go.by_ (fun t k => X.ldcInt K.x K.own (mvT K.z w) (g := mkF m pc Ls S) rfl (K.d hd) _ k) h
theorem g_ldc2 (X : Stand p l e R s m args below meth c T locs cells slots) (K : Kt p Z s m meth c y bytes maxL ret) {index : Nat} {v : Int64} (w : (Jvm.Cond.constantLong y.cls index v).before a0 Z = true) (hd : decode bytes pc = .ok (.ldc2_w index, 3)) (hq : pc + 3 = q) (h : Go p e below P T (mkF m q Ls (.long v :: S))) : Go p e below P T (mkF m pc Ls S) := by
  subst hq; exact Go.by_ (fun t k => X.ldc2Long K.x K.own (mvT K.z w) (g := mkF m pc Ls S) rfl (K.d hd) _ k) h
theorem g_tswIn (X : Stand p l e R s m args below meth c T locs cells slots) (K : Kt p Z s m meth c y bytes maxL ret) {dflt low high : Int} {offs : Array Int} {len : Nat} {o : Int} {i : Int32} (hd : decode bytes pc = .ok (.tableswitch dflt low high offs, len)) (hin : ¬ (i.toInt < low ∨ i.toInt > high)) (hoff : offs[(i.toInt - low).toNat]? = some o) (ho : 0 ≤ (pc : Int) + o) (hq : ((pc : Int) + o).toNat = q) (h : Go p e below P T (mkF m q Ls S)) : Go p e below P T (mkF m pc Ls (.int i :: S)) :=
  Go.by_ (fun t k => XS.tswIn X.here K.x rfl rfl (K.d hd) rfl hin hoff ho hq k) h
theorem g_tswOut (X : Stand p l e R s m args below meth c T locs cells slots) (K : Kt p Z s m meth c y bytes maxL ret) {dflt low high : Int} {offs : Array Int} {len : Nat} {i : Int32} (hd : decode bytes pc = .ok (.tableswitch dflt low high offs, len)) (hout : i.toInt < low ∨ i.toInt > high) (ho : 0 ≤ (pc : Int) + dflt) (hq : ((pc : Int) + dflt).toNat = q) (h : Go p e below P T (mkF m q Ls S)) : Go p e below P T (mkF m pc Ls (.int i :: S)) :=
  Go.by_ (fun t k => XS.tswOut X.here K.x rfl rfl (K.d hd) rfl hout ho hq k) h
theorem g_dupX2 (X : Stand p l e R s m args below meth c T locs cells slots) (K : Kt p Z s m meth c y bytes maxL ret) {x y1 z : Value} (hd : decode bytes pc = .ok (.dup_x2, 1)) (hc : x.category = 1) (hc1 : y1.category = 1) (hc2 : z.category = 1) (hq : pc + 1 = q) (h : Go p e below P T (mkF m q Ls (x :: y1 :: z :: x :: S))) : Go p e below P T (mkF m pc Ls (x :: y1 :: z :: S)) := by
  subst hq
  refine Go.by_ (fun t k => ?_) h
  have hx := K.x
  have hd' := K.d hd
  jvm_step X.here [X.here.top, hx, hd', hc, hc1, hc2]
  exact k
end Plain
/-! steps that look at the heap -/
section Heap
theorem g_gets {index : Nat} {C n d : String} {v : Value} (X : Stand p l e R s m args below meth c T locs cells slots) (K : Kt p Z s m meth c y bytes maxL ret) (w : (Jvm.Cond.fieldLink y.cls index C n d).before a0 Z = true) (eT : T.heap = h) (F : Sta Z h C n d v) (hd : decode bytes pc = .ok (.getstatic index, 3)) (hq : pc + 3 = q)
    (k : ∀ T', Stand p l e R s m args below meth c T' locs cells slots → T'.heap = h → Go p e below P T' (mkF m q Ls (v :: S))) : Go p e below P T (mkF m pc Ls S) := by
  subst hq
  obtain ⟨T1, X1, e1, st⟩ := getS2 X K.x K.z (host := "") K.own (Or.inl w) Via.refl eT F (g := mkF m pc Ls S) rfl (K.d hd)
  exact Go.by_ st (k T1 X1 e1)
theorem g_getf {index : Nat} {C O n d : String} {a : Addr} {v : Value} (X : Stand p l e R s m args below meth c T locs cells slots) (K : Kt p Z s m meth c y bytes maxL ret) (w : (Jvm.Cond.fieldLink y.cls index C n d).before a0 Z = true) (via : Via Z C O n d) (eT : T.heap = h) (F : Fld Z h a O n d v) (hd : decode bytes pc = .ok (.getfield index, 3)) (hq : pc + 3 = q)
    (k : ∀ T', Stand p l e R s m args below meth c T' locs cells slots → T'.heap = h → Go p e below P T' (mkF m q Ls (v :: S))) : Go p e below P T (mkF m pc Ls (.ref a :: S)) := by
  subst hq
  obtain ⟨T1, X1, e1, st⟩ := getF X K.x K.z K.own (host := "") (Or.inl w) via eT F (g := mkF m pc Ls (.ref a :: S)) rfl rfl (K.d hd)
  exact Go.by_ st (k T1 X1 e1)
theorem g_putf {index kk : Nat} {C O n d Cl : String} {a : Addr} {v old : Value} {ty : FieldType} (X : Stand p l e R s m args below meth c T locs cells slots) (K : Kt p Z s m meth c y bytes maxL ret) (w : (Jvm.Cond.fieldLink y.cls index C n d).before a0 Z = true) (via : Via Z C O n d) (eT : T.heap = h) (F : Fld Z h a O n d old) (E : Exa Z h a Cl) (L : (Jvm.Cond.lays Cl O n d).before a0 Z = true ∨ ((Jvm.Cond.laysFinal Cl O n d).before a0 Z = true ∧ y.cls = O ∧ y.name = "<init>")) (wi : (Jvm.Cond.instantiable Cl kk).before a0 Z = true)
    (hty : parseFieldDescriptor d = some ty) (hn : narrow ty v = v) (hf : fits ty v = true) (hd : decode bytes pc = .ok (.putfield index, 3)) (hq : pc + 3 = q)
    (k : ∀ T' h', Stand p l e R s m args below meth c T' (locs ++ [⟨a, Jvm.RoadKit.slotOf Z O n d⟩]) cells slots → T'.heap = h' → Wr h h' a (Jvm.RoadKit.slotOf Z O n d) v → Fld Z h' a O n d v → Go p e below P T' (mkF m q Ls S)) : Go p e below P T (mkF m pc Ls (v :: .ref a :: S)) := by
  subst hq
  obtain ⟨T1, h1, X1, e1, W1, st⟩ := putF X K.x K.z K.own (host := "") (Or.inl w) via eT F E (L.imp id fun q => ⟨q.1, q.2.1, K.nm.trans q.2.2⟩) wi hty hn hf (g := mkF m pc Ls (v :: .ref a :: S)) rfl rfl (K.d hd)
  exact Go.by_ st (k T1 h1 X1 e1 W1 (F.same W1))
theorem g_new {index n : Nat} {C : String} (X : Stand p l e R s m args below meth c T locs cells slots) (K : Kt p Z s m meth c y bytes maxL ret) (w : (Jvm.Cond.classLink y.cls index C).before a0 Z = true) (wi : (Jvm.Cond.instantiable C n).before a0 Z = true) (wz : (Jvm.Cond.initialized C).before a0 Z = true) (eT : T.heap = h) (hd : decode bytes pc = .ok (.new index, 3)) (hc : cells + 1 ≤ R.cells) (hl : slots + n ≤ R.slots) (hq : pc + 3 = q)
    (k : ∀ (T' : State) (h' : Heap) (a : Addr), Stand p l e R s m args below meth c T' locs (cells + 1) (slots + n) → T'.heap = h' → Ext h h' → h.size = a → Exa Z h' a C → (∀ {O nm d : String} {ty : FieldType}, Laid Z a0 C O nm d → parseFieldDescriptor d = some ty → Fld Z h' a O nm d (defaultValue ty)) → Go p e below P T' (mkF m q Ls (.ref a :: S))) : Go p e below P T (mkF m pc Ls S) := by
  subst hq
  obtain ⟨T1, h1, X1, e1, E1, A1, D1, -, st⟩ := newO X K.x K.z K.own w wi wz eT (g := mkF m pc Ls S) rfl (K.d hd) hc hl
  exact Go.by_ st (k T1 h1 _ X1 e1 E1 rfl A1 D1)
theorem g_init {index : Nat} {a : Addr} {W : Nat} (X : Stand p l e R s m args below meth c T locs cells slots) (K : Kt p Z s m meth c y bytes maxL ret) (w1 : (Jvm.Cond.methodLink y.cls index Lib.objectInit).before a0 Z = true) (w2 : (Jvm.Cond.instanceMethod Lib.objectInit).before a0 Z = true) (w3 : (Jvm.Cond.code Lib.objectInit ⟨#[0xb1]⟩ 1 none).before a0 Z = true) (eT : T.heap = h) (hsz : Ls.size = maxL) (hd : decode bytes pc = .ok (.invokespecial index, 3)) (hf : 1 ≤ R.frames) (hW : (S.map fun v => v.category).sum ≤ W) (hl : W + 12 ≤ R.locals) (hq : pc + 3 = q)
    (k : ∀ T', Stand p l e R s m args below meth c T' locs cells slots → T'.heap = h → Go p e below P T' (mkF m q Ls S)) : Go p e below P T (mkF m pc Ls (.ref a :: S)) := by
  subst hq
  obtain ⟨T1, X1, e1, st⟩ := initO X K.x K.z K.own w1 w2 w3 eT (g := mkF m pc Ls (.ref a :: S)) rfl (by rw [K.ml]; exact hsz) rfl (K.d hd) hf (W := W) (by show 2 * 0 + _ ≤ _; omega) hl
  exact Go.by_ st (k T1 X1 e1)
theorem g_castN {index : Nat} (X : Stand p l e R s m args below meth c T locs cells slots) (K : Kt p Z s m meth c y bytes maxL ret) (hd : decode bytes pc = .ok (.checkcast index, 3)) (hq : pc + 3 = q) (k : Go p e below P T (mkF m q Ls (.null :: S))) : Go p e below P T (mkF m pc Ls (.null :: S)) := by
  subst hq
  exact Go.by_ (fun t k => X.checkcastNull K.x (g := mkF m pc Ls (.null :: S)) rfl rfl (K.d hd) _ k) k
theorem g_cast {index : Nat} {C : String} {a : Addr} (X : Stand p l e R s m args below meth c T locs cells slots) (K : Kt p Z s m meth c y bytes maxL ret) (w : (Jvm.Cond.classLink y.cls index C).before a0 Z = true) (eT : T.heap = h) (F : Ins Z h a C true) (hd : decode bytes pc = .ok (.checkcast index, 3)) (hq : pc + 3 = q)
    (k : ∀ T', Stand p l e R s m args below meth c T' locs cells slots → T'.heap = h → Go p e below P T' (mkF m q Ls (.ref a :: S))) : Go p e below P T (mkF m pc Ls (.ref a :: S)) := by
  subst hq
  obtain ⟨T1, X1, e1, st⟩ := castY X K.x K.z K.own w eT F (g := mkF m pc Ls (.ref a :: S)) rfl rfl (K.d hd)
  exact Go.by_ st (k T1 X1 e1)
theorem g_lambda {index : Nat} {σ : Lambda.Shape} {W : Nat} (X : Stand p l e R s m args below meth c T locs cells slots) (K : Kt p Z s m meth c y bytes maxL ret) (w : (Jvm.Cond.lambdaSite y pc index σ).before a0 Z = true) (hσ : σ.captured = []) (hsz : Ls.size = maxL) (hd : decode bytes pc = .ok (.invokedynamic index, 5)) (hW : (S.map fun v => v.category).sum ≤ W) (hl : W + 3072 ≤ R.locals) (hq : pc + 5 = q)
    (k : ∀ a : Addr, Go p e below P T (mkF m q Ls (.ref a :: S))) : Go p e below P T (mkF m pc Ls S) := by
  subst hq
  obtain ⟨cK, one, hat⟩ := Cond.lambdaSite_spec w
  obtain ⟨m', kS, cfS, i0, p0, lk, hm', hkS, hcfS, -, -, hfind, hmade, hcan, hlk⟩ := State.lambdaAt?_spec hat
  have hn : Z.methodNamed? y = some m := by
    have q := State.methodNamed?_setVm (s := Z) K.z.alike y
    have q2 : (Z.setVm s.vm).methodNamed? y = s.methodNamed? y := rfl
    rw [← q, q2]; exact K.named
  cases hn.symm.trans hm'
  rcases hlk with ⟨a, cell, rfl, -⟩ | ⟨-, -, h⟩
  · obtain ⟨k', hk', he⟩ := K.z.alike.2.2 _ _ hkS
    refine Go.by_ (fun t kk => X.lambdaConstant K.x (g := mkF m pc Ls S) rfl (by rw [K.ml]; exact hsz) (K.d hd) hk' (by rw [he]; exact hfind) (by rw [X.admits.platform]; show 2 * 0 + (S.map fun v => v.category).sum + 3072 ≤ _; omega) kk) (k a)
  · exact absurd hσ h
/-! arrays -/
theorem g_len {a : Addr} {kA : ClassId} {ty : FieldType} {n : Int32} {vs : List Value} {dv : Value} (X : Stand p l e R s m args below meth c T locs cells slots) (K : Kt p Z s m meth c y bytes maxL ret) (eT : T.heap = h) (A : Arv Z h a kA ty n vs dv) (hd : decode bytes pc = .ok (.arraylength, 1)) (hq : pc + 1 = q) (k : Go p e below P T (mkF m q Ls (.int n :: S))) : Go p e below P T (mkF m pc Ls (.ref a :: S)) := by
  subst hq
  obtain ⟨cl, Ar, -, Sz, Nn, -, -⟩ := A
  refine Go.by_ (fun t k => X.arraylength K.x (by rw [eT]; exact Ar.1) (State.isArrayOf_alike K.z.alike Ar.2.1) (g := mkF m pc Ls (.ref a :: S)) rfl rfl (K.d hd) _ k) ?_
  rw [len_of Sz Nn]; exact k
theorem arv_at {a : Addr} {kA : ClassId} {ty : FieldType} {n j : Int32} {vs : List Value} {dv v : Value} (A : Arv Z h a kA ty n vs dv) (hj : ¬ j < 0 ∧ j < n) (hv : vs.getD j.toNatClampNeg dv = v) :
    ∃ cl, Arr Z h a cl ty ∧ ¬ (j < 0 ∨ cl.slots.size ≤ j.toNatClampNeg) ∧ cl.slots[j.toNatClampNeg]? = some v := by
  obtain ⟨cl, Ar, -, Sz, Nn, H, -⟩ := A
  have hin := inb_of Sz hj
  exact ⟨cl, Ar, hin, H.at hin hv⟩
theorem g_iald {a : Addr} {kA : ClassId} {n j : Int32} {vs : List Value} {dv v : Value} (X : Stand p l e R s m args below meth c T locs cells slots) (K : Kt p Z s m meth c y bytes maxL ret) (eT : T.heap = h) (A : Arv Z h a kA .int n vs dv) (hj : ¬ j < 0 ∧ j < n) (hv : vs.getD j.toNatClampNeg dv = v) (hd : decode bytes pc = .ok (.iaload, 1)) (hq : pc + 1 = q) (k : Go p e below P T (mkF m q Ls (v :: S))) : Go p e below P T (mkF m pc Ls (.int j :: .ref a :: S)) := by
  subst hq
  obtain ⟨cl, Ar, hin, hat⟩ := arv_at A hj hv
  exact Go.by_ (fun t k => X.iaload K.x (by rw [eT]; exact Ar.1) (State.isArrayOf_alike K.z.alike Ar.2.1) Ar.2.2 hin hat (g := mkF m pc Ls (.int j :: .ref a :: S)) rfl rfl (K.d hd) _ k) k
theorem g_bald {a : Addr} {kA : ClassId} {n j : Int32} {vs : List Value} {dv v : Value} (X : Stand p l e R s m args below meth c T locs cells slots) (K : Kt p Z s m meth c y bytes maxL ret) (eT : T.heap = h) (A : Arv Z h a kA .byte n vs dv) (hj : ¬ j < 0 ∧ j < n) (hv : vs.getD j.toNatClampNeg dv = v) (hd : decode bytes pc = .ok (.baload, 1)) (hq : pc + 1 = q) (k : Go p e below P T (mkF m q Ls (v :: S))) : Go p e below P T (mkF m pc Ls (.int j :: .ref a :: S)) := by
  subst hq
  obtain ⟨cl, Ar, hin, hat⟩ := arv_at A hj hv
  exact Go.by_ (fun t k => X.baloadBytes K.x (by rw [eT]; exact Ar.1) (State.isArrayOf_alike K.z.alike Ar.2.1) Ar.2.2 hin hat (g := mkF m pc Ls (.int j :: .ref a :: S)) rfl rfl (K.d hd) _ k) k
theorem g_zald {a : Addr} {kA : ClassId} {n j : Int32} {vs : List Value} {dv v : Value} (X : Stand p l e R s m args below meth c T locs cells slots) (K : Kt p Z s m meth c y bytes maxL ret) (eT : T.heap = h) (A : Arv Z h a kA .boolean n vs dv) (hj : ¬ j < 0 ∧ j < n) (hv : vs.getD j.toNatClampNeg dv = v) (hd : decode bytes pc = .ok (.baload, 1)) (hq : pc + 1 = q) (k : Go p e below P T (mkF m q Ls (v :: S))) : Go p e below P T (mkF m pc Ls (.int j :: .ref a :: S)) := by
  subst hq
  obtain ⟨cl, Ar, hin, hat⟩ := arv_at A hj hv
  exact Go.by_ (fun t k => X.baloadBooleans K.x (by rw [eT]; exact Ar.1) (State.isArrayOf_alike K.z.alike Ar.2.1) Ar.2.2 hin hat (g := mkF m pc Ls (.int j :: .ref a :: S)) rfl rfl (K.d hd) _ k) k
theorem g_aald {a : Addr} {kA : ClassId} {ty : FieldType} {n j : Int32} {vs : List Value} {dv v : Value} (X : Stand p l e R s m args below meth c T locs cells slots) (K : Kt p Z s m meth c y bytes maxL ret) (eT : T.heap = h) (A : Arv Z h a kA ty n vs dv) (hty : ty.isReference = true) (hj : ¬ j < 0 ∧ j < n) (hv : vs.getD j.toNatClampNeg dv = v) (hd : decode bytes pc = .ok (.aaload, 1)) (hq : pc + 1 = q) (k : Go p e below P T (mkF m q Ls (v :: S))) : Go p e below P T (mkF m pc Ls (.int j :: .ref a :: S)) := by
  subst hq
  obtain ⟨cl, Ar, hin, hat⟩ := arv_at A hj hv
  exact Go.by_ (fun t k => X.aaload K.x (by rw [eT]; exact Ar.1) (State.isArrayOf_alike K.z.alike Ar.2.1) hty Ar.2.2 hin hat (g := mkF m pc Ls (.int j :: .ref a :: S)) rfl rfl (K.d hd) _ k) k
theorem g_newp {aty : ArrayType} {n : Int32} {cap : Nat} {ty : FieldType} {vs : List Value} (X : Stand p l e R s m args below meth c T locs cells slots) (K : Kt p Z s m meth c y bytes maxL ret) (w : (Jvm.Cond.arrayClass ty).before a0 Z = true) (hty : newarray.typeOf aty = ty) (eT : T.heap = h) (hd : decode bytes pc = .ok (.newarray aty, 2)) (hn : ¬ n < 0) (hcap : n.toNatClampNeg ≤ cap) (hvs : List.replicate cap (defaultValue ty) = vs) (hb : cap * 8 ≤ 536870912) (hc : cells + 1 ≤ R.cells) (hl : slots + cap ≤ R.slots) (hq : pc + 2 = q)
    (k : ∀ (T' : State) (h' : Heap) (a : Addr) (kA : ClassId), Stand p l e R s m args below meth c T' locs (cells + 1) (slots + cap) → T'.heap = h' → Ext h h' → h.size = a → Arv Z h' a kA ty n vs (defaultValue ty) → Go p e below P T' (mkF m q Ls (.ref a :: S))) : Go p e below P T (mkF m pc Ls (.int n :: S)) := by
  subst hq hty hvs
  obtain ⟨T1, h1, kA, X1, e1, E1, A1, st⟩ := newP X K.x K.z w eT (g := mkF m pc Ls (.int n :: S)) rfl (K.d hd) rfl hn hcap hb hc hl
  exact Go.by_ st (k T1 h1 _ kA X1 e1 E1 rfl ((Arv.new A1 hn).pad (pad_rep [] _ cap)))
theorem g_newr {index : Nat} {C : String} {n : Int32} {cap : Nat} {vs : List Value} (X : Stand p l e R s m args below meth c T locs cells slots) (K : Kt p Z s m meth c y bytes maxL ret) (w : (Jvm.Cond.classLink y.cls index C).before a0 Z = true) (w2 : (Jvm.Cond.arrayOver (.object C)).before a0 Z = true) (eT : T.heap = h) (hd : decode bytes pc = .ok (.anewarray index, 3)) (hn : ¬ n < 0) (hcap : n.toNatClampNeg ≤ cap) (hvs : List.replicate cap Value.null = vs) (hb : cap * 8 ≤ 536870912) (hc : cells + 1 ≤ R.cells) (hl : slots + cap ≤ R.slots) (hq : pc + 3 = q)
    (k : ∀ (T' : State) (h' : Heap) (a : Addr) (kA : ClassId), Stand p l e R s m args below meth c T' locs (cells + 1) (slots + cap) → T'.heap = h' → Ext h h' → h.size = a → Arv Z h' a kA (.object C) n vs .null → Ovr Z kA C → Go p e below P T' (mkF m q Ls (.ref a :: S))) : Go p e below P T (mkF m pc Ls (.int n :: S)) := by
  subst hq hvs
  obtain ⟨T1, h1, kA, X1, e1, E1, A1, O1, st⟩ := newR X K.x K.z K.own w w2 eT (g := mkF m pc Ls (.int n :: S)) rfl (K.d hd) rfl hn hcap hb hc hl
  exact Go.by_ st (k T1 h1 _ kA X1 e1 E1 rfl ((Arv.new A1 hn).pad (pad_rep [] _ cap)) O1)
theorem g_grid {index : Nat} {C ad : String} {ty : FieldType} {n k : Int32} {N cap : Nat} {vs : List Value} (X : Stand p l e R s m args below meth c T locs cells slots) (K : Kt p Z s m meth c y bytes maxL ret) (hC : (FieldType.array ty).toString = C) (had : "[" ++ C = ad) (w1 : (Jvm.Cond.classLink y.cls index ad).before a0 Z = true) (w2 : (Jvm.Cond.arrayOver (.array ty)).before a0 Z = true) (w3 : (Jvm.Cond.arrayClass ty).before a0 Z = true) (eT : T.heap = h) (hd : decode bytes pc = .ok (.multianewarray index 2, 4)) (hn : ¬ n < 0) (hk : ¬ k < 0) (hN : n.toNatClampNeg = N) (hcap : k.toNatClampNeg ≤ cap) (hvs : List.replicate cap (defaultValue ty) = vs) (hb : cap * 8 ≤ 536870912) (hb1 : N ≤ 1000) (hdf : fits ty (defaultValue ty) = true) (hdd : (defaultValue ty).isDefault = true) (hc : cells + (1 + N) ≤ R.cells) (hl : slots + (N + N * cap) ≤ R.slots) (hq : pc + 4 = q)
    (kk : ∀ (T' : State) (h' : Heap) (a : Addr) (kA kI : ClassId), Stand p l e R s m args below meth c T' locs (cells + (1 + N)) (slots + (N + N * cap)) → T'.heap = h' → Ext h h' → h.size = a → Arv Z h' a kA (.array ty) n ((List.range N).map fun j => Value.ref (a + 1 + j)) .null → (∀ j : Nat, j < N → Arv Z h' (a + 1 + j) kI ty k vs (defaultValue ty)) → Go p e below P T' (mkF m q Ls (.ref a :: S))) : Go p e below P T (mkF m pc Ls (.int k :: .int n :: S)) := by
  subst hq hvs
  obtain ⟨T1, h1, kA, kI, X1, e1, E1, A1, -, -, I1, st⟩ := gridM X K.x K.z K.own hC had w1 w2 w3 eT (g := mkF m pc Ls (.int k :: .int n :: S)) rfl (K.d hd) rfl hn hk hN rfl hcap hb hb1 hdf hdd hc hl
  refine Go.by_ st (kk T1 h1 _ kA kI X1 e1 E1 rfl ?_ fun j hj => ?_)
  · simpa [List.map_map, Function.comp_def] using A1
  · exact (Arv.new (I1 j _ (by simp [hj])).1 hk).pad (pad_rep [] _ cap)
theorem arv_set {a : Addr} {kA : ClassId} {ty : FieldType} {n j : Int32} {vs vs' : List Value} {dv v : Value} {h' : Heap} (A : Arv Z h a kA ty n vs dv) (hv : fits ty v = true) (W : Wr h h' a j.toNatClampNeg v) (hl : j.toNatClampNeg < vs.length) (hs : vs.set j.toNatClampNeg v = vs') : Arv Z h' a kA ty n vs' dv := by
  subst hs
  obtain ⟨cl, Ar, q1, Sz, Nn, H, G⟩ := A
  exact Arv.set Ar q1 Sz Nn H G hv W _ rfl hl
theorem g_iast {a : Addr} {kA : ClassId} {n j x : Int32} {vs vs' : List Value} {dv : Value} (X : Stand p l e R s m args below meth c T locs cells slots) (K : Kt p Z s m meth c y bytes maxL ret) (eT : T.heap = h) (A : Arv Z h a kA .int n vs dv) (hj : ¬ j < 0 ∧ j < n) (hl : j.toNatClampNeg < vs.length) (hs : vs.set j.toNatClampNeg (.int x) = vs') (hd : decode bytes pc = .ok (.iastore, 1)) (hq : pc + 1 = q)
    (k : ∀ T' h', Stand p l e R s m args below meth c T' (locs ++ [⟨a, j.toNatClampNeg⟩]) cells slots → T'.heap = h' → Wr h h' a j.toNatClampNeg (.int x) → Arv Z h' a kA .int n vs' dv → Go p e below P T' (mkF m q Ls S)) : Go p e below P T (mkF m pc Ls (.int x :: .int j :: .ref a :: S)) := by
  subst hq
  obtain ⟨cl, Ar, hin, -⟩ := arv_at A hj rfl
  obtain ⟨T1, h1, X1, e1, W1, st⟩ := stI X K.x K.z eT Ar hin (g := mkF m pc Ls (.int x :: .int j :: .ref a :: S)) rfl rfl (K.d hd)
  exact Go.by_ st (k T1 h1 X1 e1 W1 (arv_set A rfl W1 hl hs))
theorem g_last {a : Addr} {kA : ClassId} {n j : Int32} {x : Int64} {vs vs' : List Value} {dv : Value} (X : Stand p l e R s m args below meth c T locs cells slots) (K : Kt p Z s m meth c y bytes maxL ret) (eT : T.heap = h) (A : Arv Z h a kA .long n vs dv) (hj : ¬ j < 0 ∧ j < n) (hl : j.toNatClampNeg < vs.length) (hs : vs.set j.toNatClampNeg (.long x) = vs') (hd : decode bytes pc = .ok (.lastore, 1)) (hq : pc + 1 = q)
    (k : ∀ T' h', Stand p l e R s m args below meth c T' (locs ++ [⟨a, j.toNatClampNeg⟩]) cells slots → T'.heap = h' → Wr h h' a j.toNatClampNeg (.long x) → Arv Z h' a kA .long n vs' dv → Go p e below P T' (mkF m q Ls S)) : Go p e below P T (mkF m pc Ls (.long x :: .int j :: .ref a :: S)) := by
  subst hq
  obtain ⟨cl, Ar, hin, -⟩ := arv_at A hj rfl
  obtain ⟨T1, h1, X1, e1, W1, st⟩ := stJ X K.x K.z eT Ar hin (g := mkF m pc Ls (.long x :: .int j :: .ref a :: S)) rfl rfl (K.d hd)
  exact Go.by_ st (k T1 h1 X1 e1 W1 (arv_set A rfl W1 hl hs))
theorem g_bast {a : Addr} {kA : ClassId} {n j x z : Int32} {vs vs' : List Value} {dv : Value} (X : Stand p l e R s m args below meth c T locs cells slots) (K : Kt p Z s m meth c y bytes maxL ret) (eT : T.heap = h) (A : Arv Z h a kA .byte n vs dv) (hj : ¬ j < 0 ∧ j < n) (hl : j.toNatClampNeg < vs.length) (hz : nar .byte x = z) (hs : vs.set j.toNatClampNeg (.int z) = vs') (hd : decode bytes pc = .ok (.bastore, 1)) (hq : pc + 1 = q)
    (k : ∀ T' h', Stand p l e R s m args below meth c T' (locs ++ [⟨a, j.toNatClampNeg⟩]) cells slots → T'.heap = h' → Wr h h' a j.toNatClampNeg (.int z) → Arv Z h' a kA .byte n vs' dv → Go p e below P T' (mkF m q Ls S)) : Go p e below P T (mkF m pc Ls (.int x :: .int j :: .ref a :: S)) := by
  subst hq hz
  obtain ⟨cl, Ar, hin, -⟩ := arv_at A hj rfl
  obtain ⟨T1, h1, X1, e1, W1, st⟩ := stB X K.x K.z eT Ar hin (g := mkF m pc Ls (.int x :: .int j :: .ref a :: S)) rfl rfl (K.d hd)
  exact Go.by_ st (k T1 h1 X1 e1 W1 (arv_set A (fits_nar_byte _) W1 hl hs))
theorem g_zast {a : Addr} {kA : ClassId} {n j x z : Int32} {vs vs' : List Value} {dv : Value} (X : Stand p l e R s m args below meth c T locs cells slots) (K : Kt p Z s m meth c y bytes maxL ret) (eT : T.heap = h) (A : Arv Z h a kA .boolean n vs dv) (hj : ¬ j < 0 ∧ j < n) (hl : j.toNatClampNeg < vs.length) (hz : nar .boolean x = z) (hs : vs.set j.toNatClampNeg (.int z) = vs') (hd : decode bytes pc = .ok (.bastore, 1)) (hq : pc + 1 = q)
    (k : ∀ T' h', Stand p l e R s m args below meth c T' (locs ++ [⟨a, j.toNatClampNeg⟩]) cells slots → T'.heap = h' → Wr h h' a j.toNatClampNeg (.int z) → Arv Z h' a kA .boolean n vs' dv → Go p e below P T' (mkF m q Ls S)) : Go p e below P T (mkF m pc Ls (.int x :: .int j :: .ref a :: S)) := by
  subst hq hz
  obtain ⟨cl, Ar, hin, -⟩ := arv_at A hj rfl
  obtain ⟨T1, h1, X1, e1, W1, st⟩ := stZ X K.x K.z eT Ar hin (g := mkF m pc Ls (.int x :: .int j :: .ref a :: S)) rfl rfl (K.d hd)
  exact Go.by_ st (k T1 h1 X1 e1 W1 (arv_set A (fits_nar_bool _) W1 hl hs))
theorem g_aast {a : Addr} {kA : ClassId} {C : String} {n j : Int32} {v : Value} {vs vs' : List Value} {dv : Value} (X : Stand p l e R s m args below meth c T locs cells slots) (K : Kt p Z s m meth c y bytes maxL ret) (eT : T.heap = h) (A : Arv Z h a kA (.object C) n vs dv) (hv : v = .null ∨ ∃ b, v = .ref b ∧ Ovr Z kA C ∧ Ins Z h b C true) (hj : ¬ j < 0 ∧ j < n) (hl : j.toNatClampNeg < vs.length) (hs : vs.set j.toNatClampNeg v = vs') (hd : decode bytes pc = .ok (.aastore, 1)) (hq : pc + 1 = q)
    (k : ∀ T' h', Stand p l e R s m args below meth c T' (locs ++ [⟨a, j.toNatClampNeg⟩]) cells slots → T'.heap = h' → Wr h h' a j.toNatClampNeg v → Arv Z h' a kA (.object C) n vs' dv → Go p e below P T' (mkF m q Ls S)) : Go p e below P T (mkF m pc Ls (v :: .int j :: .ref a :: S)) := by
  subst hq
  have hfit : fits (.object C) v = true := by rcases hv with rfl | ⟨b, rfl, -⟩ <;> rfl
  obtain ⟨cl, Ar, q1, Sz, -⟩ := id A
  have hin := inb_of Sz hj
  have F : Sto Z h a v := by
    rcases hv with rfl | ⟨b, rfl, O, I⟩
    · exact Or.inl rfl
    · exact Sto.ofV Ar q1 O I
  obtain ⟨T1, h1, X1, e1, W1, st⟩ := stR X K.x K.z eT Ar hin rfl F (g := mkF m pc Ls (v :: .int j :: .ref a :: S)) rfl rfl (K.d hd)
  exact Go.by_ st (k T1 h1 X1 e1 W1 (arv_set A hfit W1 hl hs))
/-! calls -/
variable {y' : MethodName} {bytes' : ByteArray} {maxL' : Nat} {ret' : Option FieldType} {rm : Room} {as' : Array Value} {Q' : Option Value → Heap → List Loc → Prop} {index : Nat} {argsL rest : List Value} {W : Nat}
theorem g_static (X : Stand p l e R s m args below meth c T locs cells slots) (K : Kt p Z s m meth c y bytes maxL ret) (w1 : (Jvm.Cond.methodLink y.cls index y').before a0 Z = true) (w2 : (Jvm.Cond.static y').before a0 Z = true) (w3 : (Jvm.Cond.initialized y'.cls).before a0 Z = true) (w4 : (Jvm.Cond.code y' bytes' maxL' ret').before a0 Z = true) (hy : y'.cls ≠ "java/lang/invoke/MethodHandle" ∧ y'.cls ≠ "java/lang/invoke/VarHandle")
    (hM : Mt l Z y' bytes' maxL' ret' [] rm as' h Q') (eT : T.heap = h) (hsz : Ls.size = maxL) (hlen : ∀ sig, parseMethodDescriptor y'.desc = some sig → argsL.length = sig.parameters.length) (hst : S = argsL.reverse ++ rest) (has : argsL.toArray = as') (hW : (rest.map fun v => v.category).sum ≤ W) (hd : decode bytes pc = .ok (.invokestatic index, 3))
    (hf : rm.frames + 1 ≤ R.frames) (hl : W + (maxL' + 11) + rm.locals ≤ R.locals) (hc : cells + rm.cells ≤ R.cells) (hs : slots + rm.slots ≤ R.slots) (hq : pc + 3 = q)
    (k : ∀ T' v L, Stand p l e R s m args below meth c T' (locs ++ L) (cells + rm.cells) (slots + rm.slots) → Q' v T'.heap L → Go p e below P T' (mkF m q Ls (v.toList ++ rest))) : Go p e below P T (mkF m pc Ls S) := by
  subst hq has hst
  obtain ⟨v, _, ⟨T1, L1, k1, n1⟩, -, X1, ⟨Lc, hQ, l1, y1, z1⟩, st⟩ := Jvm.LawKit.callS X K.x (y := y') K.own (mvT K.z w1) (mvT K.z w2) (mvT K.z w3) (mvT K.z w4) hy (backOf (W := W) hM K.z w4 w3 hf hl) (g := mkF m pc Ls (argsL.reverse ++ rest)) rfl (by rw [K.ml]; exact hsz) (argsL := argsL) (rest := rest) hlen rfl (by show 2 * 0 + _ ≤ _; omega) (K.d hd) (fun _ _ => ⟨rfl, eT, hc, hs⟩)
  dsimp only [Pt.U, Pt.locs, Pt.cells, Pt.slots] at X1 l1 y1 z1 st hQ
  subst l1 y1 z1
  exact Go.by_ st (k T1 v Lc X1 hQ)
theorem g_special {a : Addr} (X : Stand p l e R s m args below meth c T locs cells slots) (K : Kt p Z s m meth c y bytes maxL ret) (hy1 : y'.name = "<init>") (w1 : (Jvm.Cond.methodLink y.cls index y').before a0 Z = true) (w2 : (Jvm.Cond.instanceMethod y').before a0 Z = true) (w3 : (Jvm.Cond.initialized y'.cls).before a0 Z = true) (w4 : (Jvm.Cond.code y' bytes' maxL' none).before a0 Z = true) (hy : y'.cls ≠ "java/lang/invoke/MethodHandle" ∧ y'.cls ≠ "java/lang/invoke/VarHandle")
    (hM : Mt l Z y' bytes' maxL' none [] rm as' h Q') (eT : T.heap = h) (hsz : Ls.size = maxL) (hlen : ∀ sig, parseMethodDescriptor y'.desc = some sig → argsL.length = sig.parameters.length) (hst : S = argsL.reverse ++ .ref a :: rest) (has : (Value.ref a :: argsL).toArray = as') (hW : (rest.map fun v => v.category).sum ≤ W) (hd : decode bytes pc = .ok (.invokespecial index, 3))
    (hf : rm.frames + 1 ≤ R.frames) (hl : W + (maxL' + 11) + rm.locals ≤ R.locals) (hc : cells + rm.cells ≤ R.cells) (hs : slots + rm.slots ≤ R.slots) (hq : pc + 3 = q)
    (k : ∀ T' v L, Stand p l e R s m args below meth c T' (locs ++ L) (cells + rm.cells) (slots + rm.slots) → Q' v T'.heap L → Go p e below P T' (mkF m q Ls (v.toList ++ rest))) : Go p e below P T (mkF m pc Ls S) := by
  subst hq has hst
  obtain ⟨v, _, ⟨T1, L1, k1, n1⟩, -, X1, ⟨Lc, hQ, l1, y1, z1⟩, st⟩ := X.specialBack K.x (y := y') hy1 K.own (mvT K.z w1) (mvT K.z w2) (mvT K.z w4) hy (backOf (W := W) hM K.z w4 w3 hf hl) (g := mkF m pc Ls (argsL.reverse ++ .ref a :: rest)) rfl (by rw [K.ml]; exact hsz) (Steps.refl _) (a := a) (argsL := argsL) (rest := rest) hlen rfl (by show 2 * 0 + _ ≤ _; omega) (K.d hd) (fun _ _ => ⟨rfl, eT, hc, hs⟩)
  dsimp only [Pt.U, Pt.locs, Pt.cells, Pt.slots] at X1 l1 y1 z1 st hQ
  subst l1 y1 z1
  exact Go.tr st (k T1 v Lc X1 hQ)
theorem g_virtual {a : Addr} {C : String} {z' : MethodName} (X : Stand p l e R s m args below meth c T locs cells slots) (K : Kt p Z s m meth c y bytes maxL ret) (w1 : (Jvm.Cond.methodLink y.cls index y').before a0 Z = true) (w2 : (Jvm.Cond.declares y').before a0 Z = true) (nf : NotFace s y') (w5 : (Jvm.Cond.selects C y' z').before a0 Z = true) (w6 : (Jvm.Cond.instanceMethod z').before a0 Z = true) (w3 : (Jvm.Cond.initialized z'.cls).before a0 Z = true) (w4 : (Jvm.Cond.code z' bytes' maxL' ret').before a0 Z = true) (hy : y'.cls ≠ "java/lang/invoke/MethodHandle" ∧ y'.cls ≠ "java/lang/invoke/VarHandle")
    (hM : Mt l Z z' bytes' maxL' ret' [] rm as' h Q') (eT : T.heap = h) (E : Exa Z h a C) (hsz : Ls.size = maxL) (hlen : ∀ sig, parseMethodDescriptor y'.desc = some sig → argsL.length = sig.parameters.length) (hst : S = argsL.reverse ++ .ref a :: rest) (has : (Value.ref a :: argsL).toArray = as') (hW : (rest.map fun v => v.category).sum ≤ W) (hd : decode bytes pc = .ok (.invokevirtual index, 3))
    (hf : rm.frames + 1 ≤ R.frames) (hl : W + (maxL' + 11) + rm.locals ≤ R.locals) (hc : cells + rm.cells ≤ R.cells) (hs : slots + rm.slots ≤ R.slots) (hq : pc + 3 = q)
    (k : ∀ T' v L, Stand p l e R s m args below meth c T' (locs ++ L) (cells + rm.cells) (slots + rm.slots) → Q' v T'.heap L → Go p e below P T' (mkF m q Ls (v.toList ++ rest))) : Go p e below P T (mkF m pc Ls S) := by
  subst hq has hst
  obtain ⟨cq, kq, qa, qb, qc⟩ := isOf K.z eT E
  obtain ⟨v, _, ⟨T1, L1, k1, n1⟩, -, X1, ⟨Lc, hQ, l1, y1, z1⟩, st⟩ := X.virtualBack K.x (y := y') (z := z') K.own (mvT K.z w1) (mvT K.z w2) nf (mvT K.z w5) (mvT K.z w6) hy (backOf (W := W) hM K.z w4 w3 hf hl) qa qc (g := mkF m pc Ls (argsL.reverse ++ .ref a :: rest)) rfl (by rw [K.ml]; exact hsz) (Steps.refl _) (argsL := argsL) (rest := rest) hlen rfl (by show 2 * 0 + _ ≤ _; omega) (K.d hd) (fun _ _ => ⟨rfl, eT, hc, hs⟩)
  dsimp only [Pt.U, Pt.locs, Pt.cells, Pt.slots] at X1 l1 y1 z1 st hQ
  subst l1 y1 z1
  exact Go.tr st (k T1 v Lc X1 hQ)
theorem g_virtualUp {a : Addr} {C owner : String} {z' : MethodName} (X : Stand p l e R s m args below meth c T locs cells slots) (K : Kt p Z s m meth c y bytes maxL ret) (w1 : (Jvm.Cond.methodLink y.cls index y').before a0 Z = true) (w0 : (Jvm.Cond.sameMethod y'.cls owner y'.name y'.desc).before a0 Z = true) (w2 : (Jvm.Cond.declares ⟨owner, y'.name, y'.desc⟩).before a0 Z = true) (hy : owner ≠ "java/lang/invoke/MethodHandle" ∧ owner ≠ "java/lang/invoke/VarHandle") (w5 : (Jvm.Cond.selects C y' z').before a0 Z = true) (w6 : (Jvm.Cond.instanceMethod z').before a0 Z = true) (w3 : (Jvm.Cond.initialized z'.cls).before a0 Z = true) (w4 : (Jvm.Cond.code z' bytes' maxL' ret').before a0 Z = true)
    (hM : Mt l Z z' bytes' maxL' ret' [] rm as' h Q') (eT : T.heap = h) (E : Exa Z h a C) (hsz : Ls.size = maxL) (hlen : ∀ sig, parseMethodDescriptor y'.desc = some sig → argsL.length = sig.parameters.length) (hst : S = argsL.reverse ++ .ref a :: rest) (has : (Value.ref a :: argsL).toArray = as') (hW : (rest.map fun v => v.category).sum ≤ W) (hd : decode bytes pc = .ok (.invokevirtual index, 3))
    (hf : rm.frames + 1 ≤ R.frames) (hl : W + (maxL' + 11) + rm.locals ≤ R.locals) (hc : cells + rm.cells ≤ R.cells) (hs : slots + rm.slots ≤ R.slots) (hq : pc + 3 = q)
    (k : ∀ T' v L, Stand p l e R s m args below meth c T' (locs ++ L) (cells + rm.cells) (slots + rm.slots) → Q' v T'.heap L → Go p e below P T' (mkF m q Ls (v.toList ++ rest))) : Go p e below P T (mkF m pc Ls S) := by
  subst hq has hst
  obtain ⟨cq, kq, qa, qb, qc⟩ := isOf K.z eT E
  obtain ⟨v, _, ⟨T1, L1, k1, n1⟩, -, X1, ⟨Lc, hQ, l1, y1, z1⟩, st⟩ := X.virtualBackUp K.x (x := y') (y := z') K.own (mvT K.z w1) (mvT K.z w0) (mvT K.z w2) hy (mvT K.z w5) (mvT K.z w6) (backOf (W := W) hM K.z w4 w3 hf hl) qa qc (g := mkF m pc Ls (argsL.reverse ++ .ref a :: rest)) rfl (by rw [K.ml]; exact hsz) (Steps.refl _) (argsL := argsL) (rest := rest) hlen rfl (by show 2 * 0 + _ ≤ _; omega) (K.d hd) (fun _ _ => ⟨rfl, eT, hc, hs⟩)
  dsimp only [Pt.U, Pt.locs, Pt.cells, Pt.slots] at X1 l1 y1 z1 st hQ
  subst l1 y1 z1
  exact Go.tr st (k T1 v Lc X1 hQ)
theorem g_face {a : Addr} {C : String} {z' : MethodName} {cnt : Nat} (X : Stand p l e R s m args below meth c T locs cells slots) (K : Kt p Z s m meth c y bytes maxL ret) (w1 : (Jvm.Cond.methodLink y.cls index y').before a0 Z = true) (w2 : (Jvm.Cond.declares y').before a0 Z = true) (wf : (Jvm.Cond.interfaceMethod y'.cls y'.cls y'.name y'.desc).before args s = true) (w5 : (Jvm.Cond.selects C y' z').before a0 Z = true) (w6 : (Jvm.Cond.instanceMethod z').before a0 Z = true) (wp : (Jvm.Cond.publicMethod z').before a0 Z = true) (wu : (Jvm.Cond.unhidden C y'.name y'.desc).before a0 Z = true) (wca : (Jvm.Cond.castable C y'.cls).before a0 Z = true) (w3 : (Jvm.Cond.initialized z'.cls).before a0 Z = true) (w4 : (Jvm.Cond.code z' bytes' maxL' ret').before a0 Z = true) (hy : y'.cls ≠ "java/lang/invoke/MethodHandle" ∧ y'.cls ≠ "java/lang/invoke/VarHandle")
    (hM : Mt l Z z' bytes' maxL' ret' [] rm as' h Q') (eT : T.heap = h) (E : Exa Z h a C) (hsz : Ls.size = maxL) (hlen : ∀ sig, parseMethodDescriptor y'.desc = some sig → argsL.length = sig.parameters.length) (hst : S = argsL.reverse ++ .ref a :: rest) (has : (Value.ref a :: argsL).toArray = as') (hW : (rest.map fun v => v.category).sum ≤ W) (hd : decode bytes pc = .ok (.invokeinterface index cnt, 5))
    (hf : rm.frames + 1 ≤ R.frames) (hl : W + (maxL' + 11) + rm.locals ≤ R.locals) (hc : cells + rm.cells ≤ R.cells) (hs : slots + rm.slots ≤ R.slots) (hq : pc + 5 = q)
    (k : ∀ T' v L, Stand p l e R s m args below meth c T' (locs ++ L) (cells + rm.cells) (slots + rm.slots) → Q' v T'.heap L → Go p e below P T' (mkF m q Ls (v.toList ++ rest))) : Go p e below P T (mkF m pc Ls S) := by
  subst hq has hst
  obtain ⟨cq, kq, qa, qb, qc⟩ := isOf K.z eT E
  obtain ⟨v, _, ⟨T1, L1, k1, n1⟩, -, X1, ⟨Lc, hQ, l1, y1, z1⟩, st⟩ := X.interfaceBack K.x (xi := y') (y := z') K.own (mvT K.z w1) (mvT K.z w2) wf (mvT K.z w5) (mvT K.z w6) (mvT K.z wp) (mvT K.z wu) (mvT K.z wca) hy (backOf (W := W) hM K.z w4 w3 hf hl) qa qb qc (g := mkF m pc Ls (argsL.reverse ++ .ref a :: rest)) rfl (by rw [K.ml]; exact hsz) (Steps.refl _) (argsL := argsL) (rest := rest) hlen rfl (by show 2 * 0 + _ ≤ _; omega) (K.d hd) (fun _ _ => ⟨rfl, eT, hc, hs⟩)
  dsimp only [Pt.U, Pt.locs, Pt.cells, Pt.slots] at X1 l1 y1 z1 st hQ
  subst l1 y1 z1
  exact Go.tr st (k T1 v Lc X1 hQ)
theorem nf_self {C : String} (K : Kt p Z s m meth c y bytes maxL ret) (w : (Jvm.Cond.selects C y' y').before a0 Z = true) : NotFace s y' := notFace_of_selects (args := #[]) (mvT K.z w)
end Heap
end Own
section Start
variable {Z : State} {a0 : Array Value} {t u : Jvm.Term} {n : Int32} {a : Addr} {ty : FieldType} {vs : List Value} {dv v : Value}
def adOf (C n d : String) (Z : State) (a0 : Array Value) : Addr := match (Jvm.Term.static C n d).eval a0 Z none [] Z with | some (.ref a) => a | _ => 0
theorem own_ad {C n d : String} (h : ∃ x, (Jvm.Term.static C n d).eval a0 Z none [] Z = some (.ref x)) : (Jvm.Term.static C n d).eval a0 Z none [] Z = some (.ref (adOf C n d Z a0)) := by
  obtain ⟨x, hx⟩ := h; simp only [adOf, hx]
theorem own_eqint (h : (Jvm.Cond.eq t (.int n)).value a0 Z none Z [] = some true) : t.eval a0 Z none [] Z = some (.int n) := by
  obtain ⟨x, y, h1, h2, h3, -⟩ := cmp_v (Or.inl h)
  cases h2
  cases x <;> first | (simp [Kin, Value.isRef] at h3; done) | skip
  rw [h1]
  have q := gotT (Cond.eq_ints h1 rfl) h
  rw [q]
theorem own_eqref (h : (Jvm.Cond.eq t u).value a0 Z none Z [] = some true) (hu : u.eval a0 Z none [] Z = some (.ref a)) : t.eval a0 Z none [] Z = some (.ref a) := by
  obtain ⟨x, y, h1, h2, h3, h4⟩ := cmp_v (Or.inl h)
  cases h2.symm.trans hu
  have hx : x.isRef = true := by cases x <;> first | rfl | exact h3.1 | (simp [Kin] at h3; done)
  have q := gotT (eq_R h1 hu hx rfl) h
  rw [h1, q]
def kaOf (Z : State) (a : Addr) : ClassId := match Z.heap[a]? with | some c => c.cls | none => 0
theorem own_len (h : (Jvm.Term.length t).eval a0 Z none [] Z = some (.int n)) (ht : t.eval a0 Z none [] Z = some (.ref a)) : ∃ cl : Cell, Z.heap[a]? = some cl ∧ cl.slots.size < 2 ^ 31 ∧ cl.slots.size.toInt32 = n := by
  obtain ⟨a', cl, h1, h2, h3⟩ := Term.length_spec h
  cases ht.symm.trans h1
  refine ⟨cl, (State.arrayAt?_spec h2).1, ?_, by cases h3; rfl⟩
  by_cases q : cl.slots.size < 2147483648
  · exact q
  · simp [Term.eval, ht, h2, q] at h
theorem own_arv (hf : Fit Z) (ht : t.eval a0 Z none [] Z = some (.ref a)) (ha : (Jvm.Cond.arrayOf t ty).value a0 Z none Z [] = some true) (hl : (Jvm.Cond.eq (Jvm.Term.length t) (.int n)).value a0 Z none Z [] = some true) (hn : ¬ n < 0) (hv : n.toNatClampNeg = vs.length) (he : ∀ cl : Cell, Z.heap[a]? = some cl → HasL cl 0 vs) : Arv Z Z.heap a (kaOf Z a) ty n vs dv := by
  obtain ⟨cl, A⟩ := Arr.start ht ha
  obtain ⟨cl', h1, h2, h3⟩ := own_len (own_eqint hl) ht
  cases A.1.symm.trans h1
  have e : kaOf Z a = cl.cls := by simp only [kaOf, A.1]
  rw [e]
  exact Arv.start hf A h2 h3 hn hv (he cl A.1)
theorem own_el {j : Int32} {i : Nat} {cl : Cell} (h : (Jvm.Term.elem t (.int j)).eval a0 Z none [] Z = some v) (ht : t.eval a0 Z none [] Z = some (.ref a)) (hc : Z.heap[a]? = some cl) (hi : j.toNatClampNeg = i) : cl.slots[i]? = some v := by
  subst hi; exact (elem_in h ht (Term.int_eval j) hc).2
theorem own_lit {z k : Int32} {i : Int} (h : z.toInt = i) (hk : k.toInt = i) : z = k := Int32.toInt_inj.mp (h.trans hk.symm)
theorem own_max (x : Int32) : 0 ≤ (x &&& 2147483647).toInt := (c_andS x 2147483647).2.2 (by decide)
theorem own_rem (x : Int32) {n : Int32} {k : Int} (hk : n.toInt = k) (h0 : 0 < k) : 0 ≤ ((x &&& 2147483647) % n).toInt ∧ ((x &&& 2147483647) % n).toInt < k := by
  rw [(c_irem (x &&& 2147483647) n k hk).1 (own_max x)]
  exact ⟨Int.emod_nonneg _ (by omega), Int.emod_lt_of_pos _ h0⟩
variable {x k : Int32} {m : Int}
theorem own_ltI (hk : k.toInt = m) (h : x.toInt < m) : x < k := by rw [Int32.lt_iff_toInt_lt, hk]; exact h
theorem own_nltI (hk : k.toInt = m) (h : ¬ x.toInt < m) : ¬ (x < k) := by rw [Int32.lt_iff_toInt_lt, hk]; exact h
theorem own_gtI (hk : k.toInt = m) (h : m < x.toInt) : k < x := by rw [Int32.lt_iff_toInt_lt, hk]; exact h
theorem own_ngtI (hk : k.toInt = m) (h : ¬ m < x.toInt) : ¬ (k < x) := by rw [Int32.lt_iff_toInt_lt, hk]; exact h
theorem own_eqI (hk : k.toInt = m) (h : x.toInt = m) : x = k := own_lit h hk
theorem own_neI (hk : k.toInt = m) (h : x.toInt ≠ m) : ¬ (x = k) := fun q => h (by rw [q]; exact hk)
theorem own_ltE (hk : k.toInt = m) (h : x < k) : x.toInt < m := by rw [Int32.lt_iff_toInt_lt, hk] at h; exact h
theorem own_nltE (hk : k.toInt = m) (h : ¬ (x < k)) : ¬ x.toInt < m := by rw [Int32.lt_iff_toInt_lt, hk] at h; exact h
theorem own_gtE (hk : k.toInt = m) (h : k < x) : m < x.toInt := by rw [Int32.lt_iff_toInt_lt, hk] at h; exact h
theorem own_ngtE (hk : k.toInt = m) (h : ¬ (k < x)) : ¬ m < x.toInt := by rw [Int32.lt_iff_toInt_lt, hk] at h; exact h
theorem own_eqE (hk : k.toInt = m) (h : x = k) : x.toInt = m := by rw [h]; exact hk
theorem own_neE (hk : k.toInt = m) (h : ¬ (x = k)) : x.toInt ≠ m := fun q => h (own_lit q hk)
theorem own_some {a b : Int32} (h : a = b) : some (Value.int a) = some (Value.int b) := by rw [h]
theorem own_if1 {P : Prop} [Decidable P] (h : P) : (1 : Int32) = if P then 1 else 0 := (if_pos h).symm
theorem own_if0 {P : Prop} [Decidable P] (h : ¬ P) : (0 : Int32) = if P then 1 else 0 := (if_neg h).symm
theorem own_nar {P : Prop} [Decidable P] : nar .boolean (if P then (1 : Int32) else 0) = if P then 1 else 0 := by split <;> rfl
end Start
theorem own_sp14 (x : Int32) : (x &&& (2147483647 : Int32)) % (14 : Int32) = (0 : Int32) ∨ (x &&& (2147483647 : Int32)) % (14 : Int32) = (1 : Int32) ∨ (x &&& (2147483647 : Int32)) % (14 : Int32) = (2 : Int32) ∨ (x &&& (2147483647 : Int32)) % (14 : Int32) = (3 : Int32) ∨ (x &&& (2147483647 : Int32)) % (14 : Int32) = (4 : Int32) ∨ (x &&& (2147483647 : Int32)) % (14 : Int32) = (5 : Int32) ∨ (x &&& (2147483647 : Int32)) % (14 : Int32) = (6 : Int32) ∨ (x &&& (2147483647 : Int32)) % (14 : Int32) = (7 : Int32) ∨ (x &&& (2147483647 : Int32)) % (14 : Int32) = (8 : Int32) ∨ (x &&& (2147483647 : Int32)) % (14 : Int32) = (9 : Int32) ∨ (x &&& (2147483647 : Int32)) % (14 : Int32) = (10 : Int32) ∨ (x &&& (2147483647 : Int32)) % (14 : Int32) = (11 : Int32) ∨ (x &&& (2147483647 : Int32)) % (14 : Int32) = (12 : Int32) ∨ (x &&& (2147483647 : Int32)) % (14 : Int32) = (13 : Int32) := by
  have h := own_rem x (n := (14 : Int32)) (k := 14) (by decide) (by decide)
  generalize (x &&& (2147483647 : Int32)) % (14 : Int32) = z at h ⊢
  have q : z.toInt = 0 ∨ z.toInt = 1 ∨ z.toInt = 2 ∨ z.toInt = 3 ∨ z.toInt = 4 ∨ z.toInt = 5 ∨ z.toInt = 6 ∨ z.toInt = 7 ∨ z.toInt = 8 ∨ z.toInt = 9 ∨ z.toInt = 10 ∨ z.toInt = 11 ∨ z.toInt = 12 ∨ z.toInt = 13 := by omega
  rcases q with q | q | q | q | q | q | q | q | q | q | q | q | q | q
  · exact Or.inl (own_lit q (by decide))
  · exact Or.inr (Or.inl (own_lit q (by decide)))
  · exact Or.inr (Or.inr (Or.inl (own_lit q (by decide))))
  · exact Or.inr (Or.inr (Or.inr (Or.inl (own_lit q (by decide)))))
  · exact Or.inr (Or.inr (Or.inr (Or.inr (Or.inl (own_lit q (by decide))))))
  · exact Or.inr (Or.inr (Or.inr (Or.inr (Or.inr (Or.inl (own_lit q (by decide)))))))
  · exact Or.inr (Or.inr (Or.inr (Or.inr (Or.inr (Or.inr (Or.inl (own_lit q (by decide))))))))
  · exact Or.inr (Or.inr (Or.inr (Or.inr (Or.inr (Or.inr (Or.inr (Or.inl (own_lit q (by decide)))))))))
  · exact Or.inr (Or.inr (Or.inr (Or.inr (Or.inr (Or.inr (Or.inr (Or.inr (Or.inl (own_lit q (by decide))))))))))
  · exact Or.inr (Or.inr (Or.inr (Or.inr (Or.inr (Or.inr (Or.inr (Or.inr (Or.inr (Or.inl (own_lit q (by decide)))))))))))
  · exact Or.inr (Or.inr (Or.inr (Or.inr (Or.inr (Or.inr (Or.inr (Or.inr (Or.inr (Or.inr (Or.inl (own_lit q (by decide))))))))))))
  · exact Or.inr (Or.inr (Or.inr (Or.inr (Or.inr (Or.inr (Or.inr (Or.inr (Or.inr (Or.inr (Or.inr (Or.inl (own_lit q (by decide)))))))))))))
  · exact Or.inr (Or.inr (Or.inr (Or.inr (Or.inr (Or.inr (Or.inr (Or.inr (Or.inr (Or.inr (Or.inr (Or.inr (Or.inl (own_lit q (by decide))))))))))))))
  · exact Or.inr (Or.inr (Or.inr (Or.inr (Or.inr (Or.inr (Or.inr (Or.inr (Or.inr (Or.inr (Or.inr (Or.inr (Or.inr ((own_lit q (by decide)))))))))))))))
def Hyp (Z : State) (a0 : Array Value) : Prop := (∀ d ∈ tables_1, d.before a0 Z = true) ∧ narrow_1.value a0 Z none Z [] = some true ∧ Fit Z
section Facts
variable {Z : State} {a0 : Array Value}
theorem w0 (H : Hyp Z a0) : (Jvm.Cond.constant "com/example/twindeck/twindeck/melds/MeldRankAtPinLaw" (49 : Nat) (2147483647 : Int32)).before a0 Z = true := H.1 _ (List.mem_of_getElem? (i := 0) rfl)
theorem w1 (H : Hyp Z a0) : (Jvm.Cond.methodLink "com/example/twindeck/twindeck/melds/MeldRankAtPinLaw" (50 : Nat) ({ cls := "com/example/twindeck/twindeck/melds/Meld", name := "rankAt", desc := "(I)Lcom/example/twindeck/twindeck/cards/Rank;" } : Jvm.MethodName)).before a0 Z = true := H.1 _ (List.mem_of_getElem? (i := 1) rfl)
theorem w2 (H : Hyp Z a0) : (Jvm.Cond.static ({ cls := "com/example/twindeck/twindeck/melds/Meld", name := "rankAt", desc := "(I)Lcom/example/twindeck/twindeck/cards/Rank;" } : Jvm.MethodName)).before a0 Z = true := H.1 _ (List.mem_of_getElem? (i := 2) rfl)
theorem w3 (H : Hyp Z a0) : (Jvm.Cond.initialized "com/example/twindeck/twindeck/melds/Meld").before a0 Z = true := H.1 _ (List.mem_of_getElem? (i := 3) rfl)
theorem w4 (H : Hyp Z a0) : (Jvm.Cond.code ({ cls := "com/example/twindeck/twindeck/melds/Meld", name := "rankAt", desc := "(I)Lcom/example/twindeck/twindeck/cards/Rank;" } : Jvm.MethodName) prog_28_method_12_code (1 : Nat) (Option.some (Jvm.ClassFile.FieldType.object "com/example/twindeck/twindeck/cards/Rank"))).before a0 Z = true := H.1 _ (List.mem_of_getElem? (i := 4) rfl)
theorem w5 (H : Hyp Z a0) : (Jvm.Cond.fieldLink "com/example/twindeck/twindeck/melds/Meld" (88 : Nat) "com/example/twindeck/twindeck/melds/Meld" "RANKS" "[Lcom/example/twindeck/twindeck/cards/Rank;").before a0 Z = true := H.1 _ (List.mem_of_getElem? (i := 5) rfl)
theorem w6 (H : Hyp Z a0) : (Jvm.Cond.laysStatic "com/example/twindeck/twindeck/melds/Meld" "RANKS" "[Lcom/example/twindeck/twindeck/cards/Rank;").before a0 Z = true := H.1 _ (List.mem_of_getElem? (i := 6) rfl)
theorem w7 (H : Hyp Z a0) : (Jvm.Cond.initialized "com/example/twindeck/twindeck/cards/Rank").before a0 Z = true := H.1 _ (List.mem_of_getElem? (i := 7) rfl)
theorem w8 (H : Hyp Z a0) : (Jvm.Cond.laysStatic "com/example/twindeck/twindeck/cards/Rank" "ACE" "Lcom/example/twindeck/twindeck/cards/Rank;").before a0 Z = true := H.1 _ (List.mem_of_getElem? (i := 8) rfl)
theorem w9 (H : Hyp Z a0) : (Jvm.Cond.methodLink "com/example/twindeck/twindeck/melds/MeldRankAtPinLaw" (56 : Nat) ({ cls := "com/example/twindeck/twindeck/melds/MeldRankAtPinLaw", name := "expected", desc := "(I)Lcom/example/twindeck/twindeck/cards/Rank;" } : Jvm.MethodName)).before a0 Z = true := H.1 _ (List.mem_of_getElem? (i := 9) rfl)
theorem w10 (H : Hyp Z a0) : (Jvm.Cond.static ({ cls := "com/example/twindeck/twindeck/melds/MeldRankAtPinLaw", name := "expected", desc := "(I)Lcom/example/twindeck/twindeck/cards/Rank;" } : Jvm.MethodName)).before a0 Z = true := H.1 _ (List.mem_of_getElem? (i := 10) rfl)
theorem w11 (H : Hyp Z a0) : (Jvm.Cond.initialized "com/example/twindeck/twindeck/melds/MeldRankAtPinLaw").before a0 Z = true := H.1 _ (List.mem_of_getElem? (i := 11) rfl)
theorem w12 (H : Hyp Z a0) : (Jvm.Cond.code ({ cls := "com/example/twindeck/twindeck/melds/MeldRankAtPinLaw", name := "expected", desc := "(I)Lcom/example/twindeck/twindeck/cards/Rank;" } : Jvm.MethodName) method_2_code (1 : Nat) (Option.some (Jvm.ClassFile.FieldType.object "com/example/twindeck/twindeck/cards/Rank"))).before a0 Z = true := H.1 _ (List.mem_of_getElem? (i := 12) rfl)
theorem w13 (H : Hyp Z a0) : (Jvm.Cond.fieldLink "com/example/twindeck/twindeck/melds/MeldRankAtPinLaw" (7 : Nat) "com/example/twindeck/twindeck/cards/Rank" "ACE" "Lcom/example/twindeck/twindeck/cards/Rank;").before a0 Z = true := H.1 _ (List.mem_of_getElem? (i := 13) rfl)
theorem w14 (H : Hyp Z a0) : (Jvm.Cond.laysStatic "com/example/twindeck/twindeck/cards/Rank" "FOUR" "Lcom/example/twindeck/twindeck/cards/Rank;").before a0 Z = true := H.1 _ (List.mem_of_getElem? (i := 14) rfl)
theorem w15 (H : Hyp Z a0) : (Jvm.Cond.fieldLink "com/example/twindeck/twindeck/melds/MeldRankAtPinLaw" (19 : Nat) "com/example/twindeck/twindeck/cards/Rank" "FOUR" "Lcom/example/twindeck/twindeck/cards/Rank;").before a0 Z = true := H.1 _ (List.mem_of_getElem? (i := 15) rfl)
theorem w16 (H : Hyp Z a0) : (Jvm.Cond.laysStatic "com/example/twindeck/twindeck/cards/Rank" "KING" "Lcom/example/twindeck/twindeck/cards/Rank;").before a0 Z = true := H.1 _ (List.mem_of_getElem? (i := 16) rfl)
theorem w17 (H : Hyp Z a0) : (Jvm.Cond.fieldLink "com/example/twindeck/twindeck/melds/MeldRankAtPinLaw" (46 : Nat) "com/example/twindeck/twindeck/cards/Rank" "KING" "Lcom/example/twindeck/twindeck/cards/Rank;").before a0 Z = true := H.1 _ (List.mem_of_getElem? (i := 17) rfl)
theorem w18 (H : Hyp Z a0) : (Jvm.Cond.laysStatic "com/example/twindeck/twindeck/cards/Rank" "FIVE" "Lcom/example/twindeck/twindeck/cards/Rank;").before a0 Z = true := H.1 _ (List.mem_of_getElem? (i := 18) rfl)
theorem w19 (H : Hyp Z a0) : (Jvm.Cond.fieldLink "com/example/twindeck/twindeck/melds/MeldRankAtPinLaw" (22 : Nat) "com/example/twindeck/twindeck/cards/Rank" "FIVE" "Lcom/example/twindeck/twindeck/cards/Rank;").before a0 Z = true := H.1 _ (List.mem_of_getElem? (i := 19) rfl)
theorem w20 (H : Hyp Z a0) : (Jvm.Cond.laysStatic "com/example/twindeck/twindeck/cards/Rank" "EIGHT" "Lcom/example/twindeck/twindeck/cards/Rank;").before a0 Z = true := H.1 _ (List.mem_of_getElem? (i := 20) rfl)
theorem w21 (H : Hyp Z a0) : (Jvm.Cond.fieldLink "com/example/twindeck/twindeck/melds/MeldRankAtPinLaw" (31 : Nat) "com/example/twindeck/twindeck/cards/Rank" "EIGHT" "Lcom/example/twindeck/twindeck/cards/Rank;").before a0 Z = true := H.1 _ (List.mem_of_getElem? (i := 21) rfl)
theorem w22 (H : Hyp Z a0) : (Jvm.Cond.laysStatic "com/example/twindeck/twindeck/cards/Rank" "THREE" "Lcom/example/twindeck/twindeck/cards/Rank;").before a0 Z = true := H.1 _ (List.mem_of_getElem? (i := 22) rfl)
theorem w23 (H : Hyp Z a0) : (Jvm.Cond.fieldLink "com/example/twindeck/twindeck/melds/MeldRankAtPinLaw" (16 : Nat) "com/example/twindeck/twindeck/cards/Rank" "THREE" "Lcom/example/twindeck/twindeck/cards/Rank;").before a0 Z = true := H.1 _ (List.mem_of_getElem? (i := 23) rfl)
theorem w24 (H : Hyp Z a0) : (Jvm.Cond.laysStatic "com/example/twindeck/twindeck/cards/Rank" "QUEEN" "Lcom/example/twindeck/twindeck/cards/Rank;").before a0 Z = true := H.1 _ (List.mem_of_getElem? (i := 24) rfl)
theorem w25 (H : Hyp Z a0) : (Jvm.Cond.fieldLink "com/example/twindeck/twindeck/melds/MeldRankAtPinLaw" (43 : Nat) "com/example/twindeck/twindeck/cards/Rank" "QUEEN" "Lcom/example/twindeck/twindeck/cards/Rank;").before a0 Z = true := H.1 _ (List.mem_of_getElem? (i := 25) rfl)
theorem w26 (H : Hyp Z a0) : (Jvm.Cond.laysStatic "com/example/twindeck/twindeck/cards/Rank" "JACK" "Lcom/example/twindeck/twindeck/cards/Rank;").before a0 Z = true := H.1 _ (List.mem_of_getElem? (i := 26) rfl)
theorem w27 (H : Hyp Z a0) : (Jvm.Cond.fieldLink "com/example/twindeck/twindeck/melds/MeldRankAtPinLaw" (40 : Nat) "com/example/twindeck/twindeck/cards/Rank" "JACK" "Lcom/example/twindeck/twindeck/cards/Rank;").before a0 Z = true := H.1 _ (List.mem_of_getElem? (i := 27) rfl)
theorem w28 (H : Hyp Z a0) : (Jvm.Cond.laysStatic "com/example/twindeck/twindeck/cards/Rank" "NINE" "Lcom/example/twindeck/twindeck/cards/Rank;").before a0 Z = true := H.1 _ (List.mem_of_getElem? (i := 28) rfl)
theorem w29 (H : Hyp Z a0) : (Jvm.Cond.fieldLink "com/example/twindeck/twindeck/melds/MeldRankAtPinLaw" (34 : Nat) "com/example/twindeck/twindeck/cards/Rank" "NINE" "Lcom/example/twindeck/twindeck/cards/Rank;").before a0 Z = true := H.1 _ (List.mem_of_getElem? (i := 29) rfl)
theorem w30 (H : Hyp Z a0) : (Jvm.Cond.laysStatic "com/example/twindeck/twindeck/cards/Rank" "TWO" "Lcom/example/twindeck/twindeck/cards/Rank;").before a0 Z = true := H.1 _ (List.mem_of_getElem? (i := 30) rfl)
theorem w31 (H : Hyp Z a0) : (Jvm.Cond.fieldLink "com/example/twindeck/twindeck/melds/MeldRankAtPinLaw" (13 : Nat) "com/example/twindeck/twindeck/cards/Rank" "TWO" "Lcom/example/twindeck/twindeck/cards/Rank;").before a0 Z = true := H.1 _ (List.mem_of_getElem? (i := 31) rfl)
theorem w32 (H : Hyp Z a0) : (Jvm.Cond.laysStatic "com/example/twindeck/twindeck/cards/Rank" "TEN" "Lcom/example/twindeck/twindeck/cards/Rank;").before a0 Z = true := H.1 _ (List.mem_of_getElem? (i := 32) rfl)
theorem w33 (H : Hyp Z a0) : (Jvm.Cond.fieldLink "com/example/twindeck/twindeck/melds/MeldRankAtPinLaw" (37 : Nat) "com/example/twindeck/twindeck/cards/Rank" "TEN" "Lcom/example/twindeck/twindeck/cards/Rank;").before a0 Z = true := H.1 _ (List.mem_of_getElem? (i := 33) rfl)
theorem w34 (H : Hyp Z a0) : (Jvm.Cond.laysStatic "com/example/twindeck/twindeck/cards/Rank" "SIX" "Lcom/example/twindeck/twindeck/cards/Rank;").before a0 Z = true := H.1 _ (List.mem_of_getElem? (i := 34) rfl)
theorem w35 (H : Hyp Z a0) : (Jvm.Cond.fieldLink "com/example/twindeck/twindeck/melds/MeldRankAtPinLaw" (25 : Nat) "com/example/twindeck/twindeck/cards/Rank" "SIX" "Lcom/example/twindeck/twindeck/cards/Rank;").before a0 Z = true := H.1 _ (List.mem_of_getElem? (i := 35) rfl)
theorem w36 (H : Hyp Z a0) : (Jvm.Cond.laysStatic "com/example/twindeck/twindeck/cards/Rank" "SEVEN" "Lcom/example/twindeck/twindeck/cards/Rank;").before a0 Z = true := H.1 _ (List.mem_of_getElem? (i := 36) rfl)
theorem w37 (H : Hyp Z a0) : (Jvm.Cond.fieldLink "com/example/twindeck/twindeck/melds/MeldRankAtPinLaw" (28 : Nat) "com/example/twindeck/twindeck/cards/Rank" "SEVEN" "Lcom/example/twindeck/twindeck/cards/Rank;").before a0 Z = true := H.1 _ (List.mem_of_getElem? (i := 37) rfl)
theorem n0 (H : Hyp Z a0) : (Jvm.Cond.arrayOf (Jvm.Term.static "com/example/twindeck/twindeck/melds/Meld" "RANKS" "[Lcom/example/twindeck/twindeck/cards/Rank;") (Jvm.ClassFile.FieldType.object "com/example/twindeck/twindeck/cards/Rank")).value a0 Z none Z [] = some true := (and_e H.2.1).1
theorem n1 (H : Hyp Z a0) : (Jvm.Cond.eq (Jvm.Term.length (Jvm.Term.static "com/example/twindeck/twindeck/melds/Meld" "RANKS" "[Lcom/example/twindeck/twindeck/cards/Rank;")) (Jvm.Term.int (13 : Int32))).value a0 Z none Z [] = some true := (and_e (and_e H.2.1).2).1
theorem n2 (H : Hyp Z a0) : (Jvm.Cond.exactly (Jvm.Term.static "com/example/twindeck/twindeck/cards/Rank" "ACE" "Lcom/example/twindeck/twindeck/cards/Rank;") "com/example/twindeck/twindeck/cards/Rank").value a0 Z none Z [] = some true := (and_e (and_e (and_e H.2.1).2).2).1
theorem n3 (H : Hyp Z a0) : (Jvm.Cond.eq (Jvm.Term.elem (Jvm.Term.static "com/example/twindeck/twindeck/melds/Meld" "RANKS" "[Lcom/example/twindeck/twindeck/cards/Rank;") (Jvm.Term.int (0 : Int32))) (Jvm.Term.static "com/example/twindeck/twindeck/cards/Rank" "ACE" "Lcom/example/twindeck/twindeck/cards/Rank;")).value a0 Z none Z [] = some true := (and_e (and_e (and_e (and_e H.2.1).2).2).2).1
theorem n4 (H : Hyp Z a0) : (Jvm.Cond.exactly (Jvm.Term.static "com/example/twindeck/twindeck/cards/Rank" "FOUR" "Lcom/example/twindeck/twindeck/cards/Rank;") "com/example/twindeck/twindeck/cards/Rank").value a0 Z none Z [] = some true := (and_e (and_e (and_e (and_e (and_e H.2.1).2).2).2).2).1
theorem n5 (H : Hyp Z a0) : (Jvm.Cond.eq (Jvm.Term.elem (Jvm.Term.static "com/example/twindeck/twindeck/melds/Meld" "RANKS" "[Lcom/example/twindeck/twindeck/cards/Rank;") (Jvm.Term.int (3 : Int32))) (Jvm.Term.static "com/example/twindeck/twindeck/cards/Rank" "FOUR" "Lcom/example/twindeck/twindeck/cards/Rank;")).value a0 Z none Z [] = some true := (and_e (and_e (and_e (and_e (and_e (and_e H.2.1).2).2).2).2).2).1
theorem n6 (H : Hyp Z a0) : (Jvm.Cond.exactly (Jvm.Term.static "com/example/twindeck/twindeck/cards/Rank" "KING" "Lcom/example/twindeck/twindeck/cards/Rank;") "com/example/twindeck/twindeck/cards/Rank").value a0 Z none Z [] = some true := (and_e (and_e (and_e (and_e (and_e (and_e (and_e H.2.1).2).2).2).2).2).2).1
theorem n7 (H : Hyp Z a0) : (Jvm.Cond.eq (Jvm.Term.elem (Jvm.Term.static "com/example/twindeck/twindeck/melds/Meld" "RANKS" "[Lcom/example/twindeck/twindeck/cards/Rank;") (Jvm.Term.int (12 : Int32))) (Jvm.Term.static "com/example/twindeck/twindeck/cards/Rank" "KING" "Lcom/example/twindeck/twindeck/cards/Rank;")).value a0 Z none Z [] = some true := (and_e (and_e (and_e (and_e (and_e (and_e (and_e (and_e H.2.1).2).2).2).2).2).2).2).1
theorem n8 (H : Hyp Z a0) : (Jvm.Cond.exactly (Jvm.Term.static "com/example/twindeck/twindeck/cards/Rank" "FIVE" "Lcom/example/twindeck/twindeck/cards/Rank;") "com/example/twindeck/twindeck/cards/Rank").value a0 Z none Z [] = some true := (and_e (and_e (and_e (and_e (and_e (and_e (and_e (and_e (and_e H.2.1).2).2).2).2).2).2).2).2).1
theorem n9 (H : Hyp Z a0) : (Jvm.Cond.eq (Jvm.Term.elem (Jvm.Term.static "com/example/twindeck/twindeck/melds/Meld" "RANKS" "[Lcom/example/twindeck/twindeck/cards/Rank;") (Jvm.Term.int (4 : Int32))) (Jvm.Term.static "com/example/twindeck/twindeck/cards/Rank" "FIVE" "Lcom/example/twindeck/twindeck/cards/Rank;")).value a0 Z none Z [] = some true := (and_e (and_e (and_e (and_e (and_e (and_e (and_e (and_e (and_e (and_e H.2.1).2).2).2).2).2).2).2).2).2).1
theorem n10 (H : Hyp Z a0) : (Jvm.Cond.exactly (Jvm.Term.static "com/example/twindeck/twindeck/cards/Rank" "EIGHT" "Lcom/example/twindeck/twindeck/cards/Rank;") "com/example/twindeck/twindeck/cards/Rank").value a0 Z none Z [] = some true := (and_e (and_e (and_e (and_e (and_e (and_e (and_e (and_e (and_e (and_e (and_e H.2.1).2).2).2).2).2).2).2).2).2).2).1
theorem n11 (H : Hyp Z a0) : (Jvm.Cond.eq (Jvm.Term.elem (Jvm.Term.static "com/example/twindeck/twindeck/melds/Meld" "RANKS" "[Lcom/example/twindeck/twindeck/cards/Rank;") (Jvm.Term.int (7 : Int32))) (Jvm.Term.static "com/example/twindeck/twindeck/cards/Rank" "EIGHT" "Lcom/example/twindeck/twindeck/cards/Rank;")).value a0 Z none Z [] = some true := (and_e (and_e (and_e (and_e (and_e (and_e (and_e (and_e (and_e (and_e (and_e (and_e H.2.1).2).2).2).2).2).2).2).2).2).2).2).1
theorem n12 (H : Hyp Z a0) : (Jvm.Cond.exactly (Jvm.Term.static "com/example/twindeck/twindeck/cards/Rank" "THREE" "Lcom/example/twindeck/twindeck/cards/Rank;") "com/example/twindeck/twindeck/cards/Rank").value a0 Z none Z [] = some true := (and_e (and_e (and_e (and_e (and_e (and_e (and_e (and_e (and_e (and_e (and_e (and_e (and_e H.2.1).2).2).2).2).2).2).2).2).2).2).2).2).1
theorem n13 (H : Hyp Z a0) : (Jvm.Cond.eq (Jvm.Term.elem (Jvm.Term.static "com/example/twindeck/twindeck/melds/Meld" "RANKS" "[Lcom/example/twindeck/twindeck/cards/Rank;") (Jvm.Term.int (2 : Int32))) (Jvm.Term.static "com/example/twindeck/twindeck/cards/Rank" "THREE" "Lcom/example/twindeck/twindeck/cards/Rank;")).value a0 Z none Z [] = some true := (and_e (and_e (and_e (and_e (and_e (and_e (and_e (and_e (and_e (and_e (and_e (and_e (and_e (and_e H.2.1).2).2).2).2).2).2).2).2).2).2).2).2).2).1
theorem n14 (H : Hyp Z a0) : (Jvm.Cond.exactly (Jvm.Term.static "com/example/twindeck/twindeck/cards/Rank" "QUEEN" "Lcom/example/twindeck/twindeck/cards/Rank;") "com/example/twindeck/twindeck/cards/Rank").value a0 Z none Z [] = some true := (and_e (and_e (and_e (and_e (and_e (and_e (and_e (and_e (and_e (and_e (and_e (and_e (and_e (and_e (and_e H.2.1).2).2).2).2).2).2).2).2).2).2).2).2).2).2).1
theorem n15 (H : Hyp Z a0) : (Jvm.Cond.eq (Jvm.Term.elem (Jvm.Term.static "com/example/twindeck/twindeck/melds/Meld" "RANKS" "[Lcom/example/twindeck/twindeck/cards/Rank;") (Jvm.Term.int (11 : Int32))) (Jvm.Term.static "com/example/twindeck/twindeck/cards/Rank" "QUEEN" "Lcom/example/twindeck/twindeck/cards/Rank;")).value a0 Z none Z [] = some true := (and_e (and_e (and_e (and_e (and_e (and_e (and_e (and_e (and_e (and_e (and_e (and_e (and_e (and_e (and_e (and_e H.2.1).2).2).2).2).2).2).2).2).2).2).2).2).2).2).2).1
theorem n16 (H : Hyp Z a0) : (Jvm.Cond.exactly (Jvm.Term.static "com/example/twindeck/twindeck/cards/Rank" "JACK" "Lcom/example/twindeck/twindeck/cards/Rank;") "com/example/twindeck/twindeck/cards/Rank").value a0 Z none Z [] = some true := (and_e (and_e (and_e (and_e (and_e (and_e (and_e (and_e (and_e (and_e (and_e (and_e (and_e (and_e (and_e (and_e (and_e H.2.1).2).2).2).2).2).2).2).2).2).2).2).2).2).2).2).2).1
theorem n17 (H : Hyp Z a0) : (Jvm.Cond.eq (Jvm.Term.elem (Jvm.Term.static "com/example/twindeck/twindeck/melds/Meld" "RANKS" "[Lcom/example/twindeck/twindeck/cards/Rank;") (Jvm.Term.int (10 : Int32))) (Jvm.Term.static "com/example/twindeck/twindeck/cards/Rank" "JACK" "Lcom/example/twindeck/twindeck/cards/Rank;")).value a0 Z none Z [] = some true := (and_e (and_e (and_e (and_e (and_e (and_e (and_e (and_e (and_e (and_e (and_e (and_e (and_e (and_e (and_e (and_e (and_e (and_e H.2.1).2).2).2).2).2).2).2).2).2).2).2).2).2).2).2).2).2).1
theorem n18 (H : Hyp Z a0) : (Jvm.Cond.exactly (Jvm.Term.static "com/example/twindeck/twindeck/cards/Rank" "NINE" "Lcom/example/twindeck/twindeck/cards/Rank;") "com/example/twindeck/twindeck/cards/Rank").value a0 Z none Z [] = some true := (and_e (and_e (and_e (and_e (and_e (and_e (and_e (and_e (and_e (and_e (and_e (and_e (and_e (and_e (and_e (and_e (and_e (and_e (and_e H.2.1).2).2).2).2).2).2).2).2).2).2).2).2).2).2).2).2).2).2).1
theorem n19 (H : Hyp Z a0) : (Jvm.Cond.eq (Jvm.Term.elem (Jvm.Term.static "com/example/twindeck/twindeck/melds/Meld" "RANKS" "[Lcom/example/twindeck/twindeck/cards/Rank;") (Jvm.Term.int (8 : Int32))) (Jvm.Term.static "com/example/twindeck/twindeck/cards/Rank" "NINE" "Lcom/example/twindeck/twindeck/cards/Rank;")).value a0 Z none Z [] = some true := (and_e (and_e (and_e (and_e (and_e (and_e (and_e (and_e (and_e (and_e (and_e (and_e (and_e (and_e (and_e (and_e (and_e (and_e (and_e (and_e H.2.1).2).2).2).2).2).2).2).2).2).2).2).2).2).2).2).2).2).2).2).1
theorem n20 (H : Hyp Z a0) : (Jvm.Cond.exactly (Jvm.Term.static "com/example/twindeck/twindeck/cards/Rank" "TWO" "Lcom/example/twindeck/twindeck/cards/Rank;") "com/example/twindeck/twindeck/cards/Rank").value a0 Z none Z [] = some true := (and_e (and_e (and_e (and_e (and_e (and_e (and_e (and_e (and_e (and_e (and_e (and_e (and_e (and_e (and_e (and_e (and_e (and_e (and_e (and_e (and_e H.2.1).2).2).2).2).2).2).2).2).2).2).2).2).2).2).2).2).2).2).2).2).1
theorem n21 (H : Hyp Z a0) : (Jvm.Cond.eq (Jvm.Term.elem (Jvm.Term.static "com/example/twindeck/twindeck/melds/Meld" "RANKS" "[Lcom/example/twindeck/twindeck/cards/Rank;") (Jvm.Term.int (1 : Int32))) (Jvm.Term.static "com/example/twindeck/twindeck/cards/Rank" "TWO" "Lcom/example/twindeck/twindeck/cards/Rank;")).value a0 Z none Z [] = some true := (and_e (and_e (and_e (and_e (and_e (and_e (and_e (and_e (and_e (and_e (and_e (and_e (and_e (and_e (and_e (and_e (and_e (and_e (and_e (and_e (and_e (and_e H.2.1).2).2).2).2).2).2).2).2).2).2).2).2).2).2).2).2).2).2).2).2).2).1
theorem n22 (H : Hyp Z a0) : (Jvm.Cond.exactly (Jvm.Term.static "com/example/twindeck/twindeck/cards/Rank" "TEN" "Lcom/example/twindeck/twindeck/cards/Rank;") "com/example/twindeck/twindeck/cards/Rank").value a0 Z none Z [] = some true := (and_e (and_e (and_e (and_e (and_e (and_e (and_e (and_e (and_e (and_e (and_e (and_e (and_e (and_e (and_e (and_e (and_e (and_e (and_e (and_e (and_e (and_e (and_e H.2.1).2).2).2).2).2).2).2).2).2).2).2).2).2).2).2).2).2).2).2).2).2).2).1
theorem n23 (H : Hyp Z a0) : (Jvm.Cond.eq (Jvm.Term.elem (Jvm.Term.static "com/example/twindeck/twindeck/melds/Meld" "RANKS" "[Lcom/example/twindeck/twindeck/cards/Rank;") (Jvm.Term.int (9 : Int32))) (Jvm.Term.static "com/example/twindeck/twindeck/cards/Rank" "TEN" "Lcom/example/twindeck/twindeck/cards/Rank;")).value a0 Z none Z [] = some true := (and_e (and_e (and_e (and_e (and_e (and_e (and_e (and_e (and_e (and_e (and_e (and_e (and_e (and_e (and_e (and_e (and_e (and_e (and_e (and_e (and_e (and_e (and_e (and_e H.2.1).2).2).2).2).2).2).2).2).2).2).2).2).2).2).2).2).2).2).2).2).2).2).2).1
theorem n24 (H : Hyp Z a0) : (Jvm.Cond.exactly (Jvm.Term.static "com/example/twindeck/twindeck/cards/Rank" "SIX" "Lcom/example/twindeck/twindeck/cards/Rank;") "com/example/twindeck/twindeck/cards/Rank").value a0 Z none Z [] = some true := (and_e (and_e (and_e (and_e (and_e (and_e (and_e (and_e (and_e (and_e (and_e (and_e (and_e (and_e (and_e (and_e (and_e (and_e (and_e (and_e (and_e (and_e (and_e (and_e (and_e H.2.1).2).2).2).2).2).2).2).2).2).2).2).2).2).2).2).2).2).2).2).2).2).2).2).2).1
theorem n25 (H : Hyp Z a0) : (Jvm.Cond.eq (Jvm.Term.elem (Jvm.Term.static "com/example/twindeck/twindeck/melds/Meld" "RANKS" "[Lcom/example/twindeck/twindeck/cards/Rank;") (Jvm.Term.int (5 : Int32))) (Jvm.Term.static "com/example/twindeck/twindeck/cards/Rank" "SIX" "Lcom/example/twindeck/twindeck/cards/Rank;")).value a0 Z none Z [] = some true := (and_e (and_e (and_e (and_e (and_e (and_e (and_e (and_e (and_e (and_e (and_e (and_e (and_e (and_e (and_e (and_e (and_e (and_e (and_e (and_e (and_e (and_e (and_e (and_e (and_e (and_e H.2.1).2).2).2).2).2).2).2).2).2).2).2).2).2).2).2).2).2).2).2).2).2).2).2).2).2).1
theorem n26 (H : Hyp Z a0) : (Jvm.Cond.exactly (Jvm.Term.static "com/example/twindeck/twindeck/cards/Rank" "SEVEN" "Lcom/example/twindeck/twindeck/cards/Rank;") "com/example/twindeck/twindeck/cards/Rank").value a0 Z none Z [] = some true := (and_e (and_e (and_e (and_e (and_e (and_e (and_e (and_e (and_e (and_e (and_e (and_e (and_e (and_e (and_e (and_e (and_e (and_e (and_e (and_e (and_e (and_e (and_e (and_e (and_e (and_e (and_e H.2.1).2).2).2).2).2).2).2).2).2).2).2).2).2).2).2).2).2).2).2).2).2).2).2).2).2).2).1
theorem n27 (H : Hyp Z a0) : (Jvm.Cond.eq (Jvm.Term.elem (Jvm.Term.static "com/example/twindeck/twindeck/melds/Meld" "RANKS" "[Lcom/example/twindeck/twindeck/cards/Rank;") (Jvm.Term.int (6 : Int32))) (Jvm.Term.static "com/example/twindeck/twindeck/cards/Rank" "SEVEN" "Lcom/example/twindeck/twindeck/cards/Rank;")).value a0 Z none Z [] = some true := (and_e (and_e (and_e (and_e (and_e (and_e (and_e (and_e (and_e (and_e (and_e (and_e (and_e (and_e (and_e (and_e (and_e (and_e (and_e (and_e (and_e (and_e (and_e (and_e (and_e (and_e (and_e H.2.1).2).2).2).2).2).2).2).2).2).2).2).2).2).2).2).2).2).2).2).2).2).2).2).2).2).2).2
def ad0 (Z : State) (a0 : Array Value) : Addr := adOf "com/example/twindeck/twindeck/melds/Meld" "RANKS" "[Lcom/example/twindeck/twindeck/cards/Rank;" Z a0
theorem ev0 (H : Hyp Z a0) : (Jvm.Term.static "com/example/twindeck/twindeck/melds/Meld" "RANKS" "[Lcom/example/twindeck/twindeck/cards/Rank;").eval a0 Z none [] Z = some (.ref (ad0 Z a0)) := own_ad (arr_v (n0 H))
theorem s0 (H : Hyp Z a0) : Sta Z Z.heap "com/example/twindeck/twindeck/melds/Meld" "RANKS" "[Lcom/example/twindeck/twindeck/cards/Rank;" (.ref (ad0 Z a0)) := Sta.start (ev0 H) (Or.inr ⟨(w3 H), (w6 H)⟩)
def ad1 (Z : State) (a0 : Array Value) : Addr := adOf "com/example/twindeck/twindeck/cards/Rank" "ACE" "Lcom/example/twindeck/twindeck/cards/Rank;" Z a0
theorem ev1 (H : Hyp Z a0) : (Jvm.Term.static "com/example/twindeck/twindeck/cards/Rank" "ACE" "Lcom/example/twindeck/twindeck/cards/Rank;").eval a0 Z none [] Z = some (.ref (ad1 Z a0)) := own_ad (exa_v (n2 H))
theorem s1 (H : Hyp Z a0) : Sta Z Z.heap "com/example/twindeck/twindeck/cards/Rank" "ACE" "Lcom/example/twindeck/twindeck/cards/Rank;" (.ref (ad1 Z a0)) := Sta.start (ev1 H) (Or.inr ⟨(w7 H), (w8 H)⟩)
def ad2 (Z : State) (a0 : Array Value) : Addr := adOf "com/example/twindeck/twindeck/cards/Rank" "FOUR" "Lcom/example/twindeck/twindeck/cards/Rank;" Z a0
theorem ev2 (H : Hyp Z a0) : (Jvm.Term.static "com/example/twindeck/twindeck/cards/Rank" "FOUR" "Lcom/example/twindeck/twindeck/cards/Rank;").eval a0 Z none [] Z = some (.ref (ad2 Z a0)) := own_ad (exa_v (n4 H))
theorem s2 (H : Hyp Z a0) : Sta Z Z.heap "com/example/twindeck/twindeck/cards/Rank" "FOUR" "Lcom/example/twindeck/twindeck/cards/Rank;" (.ref (ad2 Z a0)) := Sta.start (ev2 H) (Or.inr ⟨(w7 H), (w14 H)⟩)
def ad3 (Z : State) (a0 : Array Value) : Addr := adOf "com/example/twindeck/twindeck/cards/Rank" "KING" "Lcom/example/twindeck/twindeck/cards/Rank;" Z a0
theorem ev3 (H : Hyp Z a0) : (Jvm.Term.static "com/example/twindeck/twindeck/cards/Rank" "KING" "Lcom/example/twindeck/twindeck/cards/Rank;").eval a0 Z none [] Z = some (.ref (ad3 Z a0)) := own_ad (exa_v (n6 H))
theorem s3 (H : Hyp Z a0) : Sta Z Z.heap "com/example/twindeck/twindeck/cards/Rank" "KING" "Lcom/example/twindeck/twindeck/cards/Rank;" (.ref (ad3 Z a0)) := Sta.start (ev3 H) (Or.inr ⟨(w7 H), (w16 H)⟩)
def ad4 (Z : State) (a0 : Array Value) : Addr := adOf "com/example/twindeck/twindeck/cards/Rank" "FIVE" "Lcom/example/twindeck/twindeck/cards/Rank;" Z a0
theorem ev4 (H : Hyp Z a0) : (Jvm.Term.static "com/example/twindeck/twindeck/cards/Rank" "FIVE" "Lcom/example/twindeck/twindeck/cards/Rank;").eval a0 Z none [] Z = some (.ref (ad4 Z a0)) := own_ad (exa_v (n8 H))
theorem s4 (H : Hyp Z a0) : Sta Z Z.heap "com/example/twindeck/twindeck/cards/Rank" "FIVE" "Lcom/example/twindeck/twindeck/cards/Rank;" (.ref (ad4 Z a0)) := Sta.start (ev4 H) (Or.inr ⟨(w7 H), (w18 H)⟩)
def ad5 (Z : State) (a0 : Array Value) : Addr := adOf "com/example/twindeck/twindeck/cards/Rank" "EIGHT" "Lcom/example/twindeck/twindeck/cards/Rank;" Z a0
theorem ev5 (H : Hyp Z a0) : (Jvm.Term.static "com/example/twindeck/twindeck/cards/Rank" "EIGHT" "Lcom/example/twindeck/twindeck/cards/Rank;").eval a0 Z none [] Z = some (.ref (ad5 Z a0)) := own_ad (exa_v (n10 H))
theorem s5 (H : Hyp Z a0) : Sta Z Z.heap "com/example/twindeck/twindeck/cards/Rank" "EIGHT" "Lcom/example/twindeck/twindeck/cards/Rank;" (.ref (ad5 Z a0)) := Sta.start (ev5 H) (Or.inr ⟨(w7 H), (w20 H)⟩)
def ad6 (Z : State) (a0 : Array Value) : Addr := adOf "com/example/twindeck/twindeck/cards/Rank" "THREE" "Lcom/example/twindeck/twindeck/cards/Rank;" Z a0
theorem ev6 (H : Hyp Z a0) : (Jvm.Term.static "com/example/twindeck/twindeck/cards/Rank" "THREE" "Lcom/example/twindeck/twindeck/cards/Rank;").eval a0 Z none [] Z = some (.ref (ad6 Z a0)) := own_ad (exa_v (n12 H))
theorem s6 (H : Hyp Z a0) : Sta Z Z.heap "com/example/twindeck/twindeck/cards/Rank" "THREE" "Lcom/example/twindeck/twindeck/cards/Rank;" (.ref (ad6 Z a0)) := Sta.start (ev6 H) (Or.inr ⟨(w7 H), (w22 H)⟩)
def ad7 (Z : State) (a0 : Array Value) : Addr := adOf "com/example/twindeck/twindeck/cards/Rank" "QUEEN" "Lcom/example/twindeck/twindeck/cards/Rank;" Z a0
theorem ev7 (H : Hyp Z a0) : (Jvm.Term.static "com/example/twindeck/twindeck/cards/Rank" "QUEEN" "Lcom/example/twindeck/twindeck/cards/Rank;").eval a0 Z none [] Z = some (.ref (ad7 Z a0)) := own_ad (exa_v (n14 H))
theorem s7 (H : Hyp Z a0) : Sta Z Z.heap "com/example/twindeck/twindeck/cards/Rank" "QUEEN" "Lcom/example/twindeck/twindeck/cards/Rank;" (.ref (ad7 Z a0)) := Sta.start (ev7 H) (Or.inr ⟨(w7 H), (w24 H)⟩)
def ad8 (Z : State) (a0 : Array Value) : Addr := adOf "com/example/twindeck/twindeck/cards/Rank" "JACK" "Lcom/example/twindeck/twindeck/cards/Rank;" Z a0
theorem ev8 (H : Hyp Z a0) : (Jvm.Term.static "com/example/twindeck/twindeck/cards/Rank" "JACK" "Lcom/example/twindeck/twindeck/cards/Rank;").eval a0 Z none [] Z = some (.ref (ad8 Z a0)) := own_ad (exa_v (n16 H))
theorem s8 (H : Hyp Z a0) : Sta Z Z.heap "com/example/twindeck/twindeck/cards/Rank" "JACK" "Lcom/example/twindeck/twindeck/cards/Rank;" (.ref (ad8 Z a0)) := Sta.start (ev8 H) (Or.inr ⟨(w7 H), (w26 H)⟩)
def ad9 (Z : State) (a0 : Array Value) : Addr := adOf "com/example/twindeck/twindeck/cards/Rank" "NINE" "Lcom/example/twindeck/twindeck/cards/Rank;" Z a0
theorem ev9 (H : Hyp Z a0) : (Jvm.Term.static "com/example/twindeck/twindeck/cards/Rank" "NINE" "Lcom/example/twindeck/twindeck/cards/Rank;").eval a0 Z none [] Z = some (.ref (ad9 Z a0)) := own_ad (exa_v (n18 H))
theorem s9 (H : Hyp Z a0) : Sta Z Z.heap "com/example/twindeck/twindeck/cards/Rank" "NINE" "Lcom/example/twindeck/twindeck/cards/Rank;" (.ref (ad9 Z a0)) := Sta.start (ev9 H) (Or.inr ⟨(w7 H), (w28 H)⟩)
def ad10 (Z : State) (a0 : Array Value) : Addr := adOf "com/example/twindeck/twindeck/cards/Rank" "TWO" "Lcom/example/twindeck/twindeck/cards/Rank;" Z a0
theorem ev10 (H : Hyp Z a0) : (Jvm.Term.static "com/example/twindeck/twindeck/cards/Rank" "TWO" "Lcom/example/twindeck/twindeck/cards/Rank;").eval a0 Z none [] Z = some (.ref (ad10 Z a0)) := own_ad (exa_v (n20 H))
theorem s10 (H : Hyp Z a0) : Sta Z Z.heap "com/example/twindeck/twindeck/cards/Rank" "TWO" "Lcom/example/twindeck/twindeck/cards/Rank;" (.ref (ad10 Z a0)) := Sta.start (ev10 H) (Or.inr ⟨(w7 H), (w30 H)⟩)
def ad11 (Z : State) (a0 : Array Value) : Addr := adOf "com/example/twindeck/twindeck/cards/Rank" "TEN" "Lcom/example/twindeck/twindeck/cards/Rank;" Z a0
theorem ev11 (H : Hyp Z a0) : (Jvm.Term.static "com/example/twindeck/twindeck/cards/Rank" "TEN" "Lcom/example/twindeck/twindeck/cards/Rank;").eval a0 Z none [] Z = some (.ref (ad11 Z a0)) := own_ad (exa_v (n22 H))
theorem s11 (H : Hyp Z a0) : Sta Z Z.heap "com/example/twindeck/twindeck/cards/Rank" "TEN" "Lcom/example/twindeck/twindeck/cards/Rank;" (.ref (ad11 Z a0)) := Sta.start (ev11 H) (Or.inr ⟨(w7 H), (w32 H)⟩)
def ad12 (Z : State) (a0 : Array Value) : Addr := adOf "com/example/twindeck/twindeck/cards/Rank" "SIX" "Lcom/example/twindeck/twindeck/cards/Rank;" Z a0
theorem ev12 (H : Hyp Z a0) : (Jvm.Term.static "com/example/twindeck/twindeck/cards/Rank" "SIX" "Lcom/example/twindeck/twindeck/cards/Rank;").eval a0 Z none [] Z = some (.ref (ad12 Z a0)) := own_ad (exa_v (n24 H))
theorem s12 (H : Hyp Z a0) : Sta Z Z.heap "com/example/twindeck/twindeck/cards/Rank" "SIX" "Lcom/example/twindeck/twindeck/cards/Rank;" (.ref (ad12 Z a0)) := Sta.start (ev12 H) (Or.inr ⟨(w7 H), (w34 H)⟩)
def ad13 (Z : State) (a0 : Array Value) : Addr := adOf "com/example/twindeck/twindeck/cards/Rank" "SEVEN" "Lcom/example/twindeck/twindeck/cards/Rank;" Z a0
theorem ev13 (H : Hyp Z a0) : (Jvm.Term.static "com/example/twindeck/twindeck/cards/Rank" "SEVEN" "Lcom/example/twindeck/twindeck/cards/Rank;").eval a0 Z none [] Z = some (.ref (ad13 Z a0)) := own_ad (exa_v (n26 H))
theorem s13 (H : Hyp Z a0) : Sta Z Z.heap "com/example/twindeck/twindeck/cards/Rank" "SEVEN" "Lcom/example/twindeck/twindeck/cards/Rank;" (.ref (ad13 Z a0)) := Sta.start (ev13 H) (Or.inr ⟨(w7 H), (w36 H)⟩)
theorem x1 (H : Hyp Z a0) : Exa Z Z.heap (ad1 Z a0) "com/example/twindeck/twindeck/cards/Rank" := Exa.start (ev1 H) (n2 H)
theorem x2 (H : Hyp Z a0) : Exa Z Z.heap (ad2 Z a0) "com/example/twindeck/twindeck/cards/Rank" := Exa.start (ev2 H) (n4 H)
theorem x3 (H : Hyp Z a0) : Exa Z Z.heap (ad3 Z a0) "com/example/twindeck/twindeck/cards/Rank" := Exa.start (ev3 H) (n6 H)
theorem x4 (H : Hyp Z a0) : Exa Z Z.heap (ad4 Z a0) "com/example/twindeck/twindeck/cards/Rank" := Exa.start (ev4 H) (n8 H)
theorem x5 (H : Hyp Z a0) : Exa Z Z.heap (ad5 Z a0) "com/example/twindeck/twindeck/cards/Rank" := Exa.start (ev5 H) (n10 H)
theorem x6 (H : Hyp Z a0) : Exa Z Z.heap (ad6 Z a0) "com/example/twindeck/twindeck/cards/Rank" := Exa.start (ev6 H) (n12 H)
theorem x7 (H : Hyp Z a0) : Exa Z Z.heap (ad7 Z a0) "com/example/twindeck/twindeck/cards/Rank" := Exa.start (ev7 H) (n14 H)
theorem x8 (H : Hyp Z a0) : Exa Z Z.heap (ad8 Z a0) "com/example/twindeck/twindeck/cards/Rank" := Exa.start (ev8 H) (n16 H)
theorem x9 (H : Hyp Z a0) : Exa Z Z.heap (ad9 Z a0) "com/example/twindeck/twindeck/cards/Rank" := Exa.start (ev9 H) (n18 H)
theorem x10 (H : Hyp Z a0) : Exa Z Z.heap (ad10 Z a0) "com/example/twindeck/twindeck/cards/Rank" := Exa.start (ev10 H) (n20 H)
theorem x11 (H : Hyp Z a0) : Exa Z Z.heap (ad11 Z a0) "com/example/twindeck/twindeck/cards/Rank" := Exa.start (ev11 H) (n22 H)
theorem x12 (H : Hyp Z a0) : Exa Z Z.heap (ad12 Z a0) "com/example/twindeck/twindeck/cards/Rank" := Exa.start (ev12 H) (n24 H)
theorem x13 (H : Hyp Z a0) : Exa Z Z.heap (ad13 Z a0) "com/example/twindeck/twindeck/cards/Rank" := Exa.start (ev13 H) (n26 H)
theorem v0 (H : Hyp Z a0) : Arv Z Z.heap (ad0 Z a0) (kaOf Z (ad0 Z a0)) (.object "com/example/twindeck/twindeck/cards/Rank") (13 : Int32) [(.ref (ad1 Z a0)), (.ref (ad10 Z a0)), (.ref (ad6 Z a0)), (.ref (ad2 Z a0)), (.ref (ad4 Z a0)), (.ref (ad12 Z a0)), (.ref (ad13 Z a0)), (.ref (ad5 Z a0)), (.ref (ad9 Z a0)), (.ref (ad11 Z a0)), (.ref (ad8 Z a0)), (.ref (ad7 Z a0)), (.ref (ad3 Z a0))] .null := own_arv H.2.2 (ev0 H) (n0 H) (n1 H) (by decide) rfl (fun cl hc => ⟨own_el (own_eqref (n3 H) (ev1 H)) (ev0 H) hc rfl, own_el (own_eqref (n21 H) (ev10 H)) (ev0 H) hc rfl, own_el (own_eqref (n13 H) (ev6 H)) (ev0 H) hc rfl, own_el (own_eqref (n5 H) (ev2 H)) (ev0 H) hc rfl, own_el (own_eqref (n9 H) (ev4 H)) (ev0 H) hc rfl, own_el (own_eqref (n25 H) (ev12 H)) (ev0 H) hc rfl, own_el (own_eqref (n27 H) (ev13 H)) (ev0 H) hc rfl, own_el (own_eqref (n11 H) (ev5 H)) (ev0 H) hc rfl, own_el (own_eqref (n19 H) (ev9 H)) (ev0 H) hc rfl, own_el (own_eqref (n23 H) (ev11 H)) (ev0 H) hc rfl, own_el (own_eqref (n17 H) (ev8 H)) (ev0 H) hc rfl, own_el (own_eqref (n15 H) (ev7 H)) (ev0 H) hc rfl, own_el (own_eqref (n7 H) (ev3 H)) (ev0 H) hc rfl, trivial⟩)
end Facts
theorem d1_0 : decode prog_28_method_12_code 0 = .ok (.getstatic 88, 3) := by decide +kernel
theorem d1_3 : decode prog_28_method_12_code 3 = .ok (.iload_n 0, 1) := by decide +kernel
theorem d1_4 : decode prog_28_method_12_code 4 = .ok (.iconst 1, 1) := by decide +kernel
theorem d1_5 : decode prog_28_method_12_code 5 = .ok (.isub, 1) := by decide +kernel
theorem d1_6 : decode prog_28_method_12_code 6 = .ok (.getstatic 88, 3) := by decide +kernel
theorem d1_9 : decode prog_28_method_12_code 9 = .ok (.arraylength, 1) := by decide +kernel
theorem d1_10 : decode prog_28_method_12_code 10 = .ok (.irem, 1) := by decide +kernel
theorem d1_11 : decode prog_28_method_12_code 11 = .ok (.aaload, 1) := by decide +kernel
theorem d1_12 : decode prog_28_method_12_code 12 = .ok (.areturn, 1) := by decide +kernel
theorem d2_0 : decode method_2_code 0 = .ok (.iload_n 0, 1) := by decide +kernel
theorem d2_1 : decode method_2_code 1 = .ok (.iconst 1, 1) := by decide +kernel
theorem d2_2 : decode method_2_code 2 = .ok (.if_icmp .ne 7, 3) := by decide +kernel
theorem d2_5 : decode method_2_code 5 = .ok (.getstatic 7, 3) := by decide +kernel
theorem d2_8 : decode method_2_code 8 = .ok (.areturn, 1) := by decide +kernel
theorem d2_9 : decode method_2_code 9 = .ok (.iload_n 0, 1) := by decide +kernel
theorem d2_10 : decode method_2_code 10 = .ok (.iconst 2, 1) := by decide +kernel
theorem d2_11 : decode method_2_code 11 = .ok (.if_icmp .ne 7, 3) := by decide +kernel
theorem d2_14 : decode method_2_code 14 = .ok (.getstatic 13, 3) := by decide +kernel
theorem d2_17 : decode method_2_code 17 = .ok (.areturn, 1) := by decide +kernel
theorem d2_18 : decode method_2_code 18 = .ok (.iload_n 0, 1) := by decide +kernel
theorem d2_19 : decode method_2_code 19 = .ok (.iconst 3, 1) := by decide +kernel
theorem d2_20 : decode method_2_code 20 = .ok (.if_icmp .ne 7, 3) := by decide +kernel
theorem d2_23 : decode method_2_code 23 = .ok (.getstatic 16, 3) := by decide +kernel
theorem d2_26 : decode method_2_code 26 = .ok (.areturn, 1) := by decide +kernel
theorem d2_27 : decode method_2_code 27 = .ok (.iload_n 0, 1) := by decide +kernel
theorem d2_28 : decode method_2_code 28 = .ok (.iconst 4, 1) := by decide +kernel
theorem d2_29 : decode method_2_code 29 = .ok (.if_icmp .ne 7, 3) := by decide +kernel
theorem d2_32 : decode method_2_code 32 = .ok (.getstatic 19, 3) := by decide +kernel
theorem d2_35 : decode method_2_code 35 = .ok (.areturn, 1) := by decide +kernel
theorem d2_36 : decode method_2_code 36 = .ok (.iload_n 0, 1) := by decide +kernel
theorem d2_37 : decode method_2_code 37 = .ok (.iconst 5, 1) := by decide +kernel
theorem d2_38 : decode method_2_code 38 = .ok (.if_icmp .ne 7, 3) := by decide +kernel
theorem d2_41 : decode method_2_code 41 = .ok (.getstatic 22, 3) := by decide +kernel
theorem d2_44 : decode method_2_code 44 = .ok (.areturn, 1) := by decide +kernel
theorem d2_45 : decode method_2_code 45 = .ok (.iload_n 0, 1) := by decide +kernel
theorem d2_46 : decode method_2_code 46 = .ok (.bipush 6, 2) := by decide +kernel
theorem d2_48 : decode method_2_code 48 = .ok (.if_icmp .ne 7, 3) := by decide +kernel
theorem d2_51 : decode method_2_code 51 = .ok (.getstatic 25, 3) := by decide +kernel
theorem d2_54 : decode method_2_code 54 = .ok (.areturn, 1) := by decide +kernel
theorem d2_55 : decode method_2_code 55 = .ok (.iload_n 0, 1) := by decide +kernel
theorem d2_56 : decode method_2_code 56 = .ok (.bipush 7, 2) := by decide +kernel
theorem d2_58 : decode method_2_code 58 = .ok (.if_icmp .ne 7, 3) := by decide +kernel
theorem d2_61 : decode method_2_code 61 = .ok (.getstatic 28, 3) := by decide +kernel
theorem d2_64 : decode method_2_code 64 = .ok (.areturn, 1) := by decide +kernel
theorem d2_65 : decode method_2_code 65 = .ok (.iload_n 0, 1) := by decide +kernel
theorem d2_66 : decode method_2_code 66 = .ok (.bipush 8, 2) := by decide +kernel
theorem d2_68 : decode method_2_code 68 = .ok (.if_icmp .ne 7, 3) := by decide +kernel
theorem d2_71 : decode method_2_code 71 = .ok (.getstatic 31, 3) := by decide +kernel
theorem d2_74 : decode method_2_code 74 = .ok (.areturn, 1) := by decide +kernel
theorem d2_75 : decode method_2_code 75 = .ok (.iload_n 0, 1) := by decide +kernel
theorem d2_76 : decode method_2_code 76 = .ok (.bipush 9, 2) := by decide +kernel
theorem d2_78 : decode method_2_code 78 = .ok (.if_icmp .ne 7, 3) := by decide +kernel
theorem d2_81 : decode method_2_code 81 = .ok (.getstatic 34, 3) := by decide +kernel
theorem d2_84 : decode method_2_code 84 = .ok (.areturn, 1) := by decide +kernel
theorem d2_85 : decode method_2_code 85 = .ok (.iload_n 0, 1) := by decide +kernel
theorem d2_86 : decode method_2_code 86 = .ok (.bipush 10, 2) := by decide +kernel
theorem d2_88 : decode method_2_code 88 = .ok (.if_icmp .ne 7, 3) := by decide +kernel
theorem d2_91 : decode method_2_code 91 = .ok (.getstatic 37, 3) := by decide +kernel
theorem d2_94 : decode method_2_code 94 = .ok (.areturn, 1) := by decide +kernel
theorem d2_95 : decode method_2_code 95 = .ok (.iload_n 0, 1) := by decide +kernel
theorem d2_96 : decode method_2_code 96 = .ok (.bipush 11, 2) := by decide +kernel
theorem d2_98 : decode method_2_code 98 = .ok (.if_icmp .ne 7, 3) := by decide +kernel
theorem d2_101 : decode method_2_code 101 = .ok (.getstatic 40, 3) := by decide +kernel
theorem d2_104 : decode method_2_code 104 = .ok (.areturn, 1) := by decide +kernel
theorem d2_105 : decode method_2_code 105 = .ok (.iload_n 0, 1) := by decide +kernel
theorem d2_106 : decode method_2_code 106 = .ok (.bipush 12, 2) := by decide +kernel
theorem d2_108 : decode method_2_code 108 = .ok (.if_icmp .ne 7, 3) := by decide +kernel
theorem d2_111 : decode method_2_code 111 = .ok (.getstatic 43, 3) := by decide +kernel
theorem d2_114 : decode method_2_code 114 = .ok (.areturn, 1) := by decide +kernel
theorem d2_115 : decode method_2_code 115 = .ok (.iload_n 0, 1) := by decide +kernel
theorem d2_116 : decode method_2_code 116 = .ok (.bipush 13, 2) := by decide +kernel
theorem d2_118 : decode method_2_code 118 = .ok (.if_icmp .ne 7, 3) := by decide +kernel
theorem d2_121 : decode method_2_code 121 = .ok (.getstatic 46, 3) := by decide +kernel
theorem d2_124 : decode method_2_code 124 = .ok (.areturn, 1) := by decide +kernel
theorem d2_125 : decode method_2_code 125 = .ok (.getstatic 7, 3) := by decide +kernel
theorem d2_128 : decode method_2_code 128 = .ok (.areturn, 1) := by decide +kernel
theorem pd_0 : parseMethodDescriptor "(I)Lcom/example/twindeck/twindeck/cards/Rank;" = some ⟨[.int], some (.object "com/example/twindeck/twindeck/cards/Rank")⟩ := by decide +kernel
theorem pn_com_example_twindeck_twindeck_melds_Meld : plainName "com/example/twindeck/twindeck/melds/Meld" = true := by first | (simp [plainName, overriddenIn]; done) | decide +kernel
theorem pn_com_example_twindeck_twindeck_melds_MeldRankAtPinLaw : plainName "com/example/twindeck/twindeck/melds/MeldRankAtPinLaw" = true := by first | (simp [plainName, overriddenIn]; done) | decide +kernel
theorem ef_0 (m : MethodId)  : entryFrame m #[(.int (1 : Int32))] 1 = mkF m 0 #[.val (.int (1 : Int32))] [] := by first | (simp [entryFrame, mkF, argsToLocals, Value.category]; done) | rfl
theorem ef_1 (m : MethodId)  : entryFrame m #[(.int (2 : Int32))] 1 = mkF m 0 #[.val (.int (2 : Int32))] [] := by first | (simp [entryFrame, mkF, argsToLocals, Value.category]; done) | rfl
theorem ef_2 (m : MethodId)  : entryFrame m #[(.int (3 : Int32))] 1 = mkF m 0 #[.val (.int (3 : Int32))] [] := by first | (simp [entryFrame, mkF, argsToLocals, Value.category]; done) | rfl
theorem ef_3 (m : MethodId)  : entryFrame m #[(.int (4 : Int32))] 1 = mkF m 0 #[.val (.int (4 : Int32))] [] := by first | (simp [entryFrame, mkF, argsToLocals, Value.category]; done) | rfl
theorem ef_4 (m : MethodId)  : entryFrame m #[(.int (5 : Int32))] 1 = mkF m 0 #[.val (.int (5 : Int32))] [] := by first | (simp [entryFrame, mkF, argsToLocals, Value.category]; done) | rfl
theorem ef_5 (m : MethodId)  : entryFrame m #[(.int (6 : Int32))] 1 = mkF m 0 #[.val (.int (6 : Int32))] [] := by first | (simp [entryFrame, mkF, argsToLocals, Value.category]; done) | rfl
theorem ef_6 (m : MethodId)  : entryFrame m #[(.int (7 : Int32))] 1 = mkF m 0 #[.val (.int (7 : Int32))] [] := by first | (simp [entryFrame, mkF, argsToLocals, Value.category]; done) | rfl
theorem ef_7 (m : MethodId)  : entryFrame m #[(.int (8 : Int32))] 1 = mkF m 0 #[.val (.int (8 : Int32))] [] := by first | (simp [entryFrame, mkF, argsToLocals, Value.category]; done) | rfl
theorem ef_8 (m : MethodId)  : entryFrame m #[(.int (9 : Int32))] 1 = mkF m 0 #[.val (.int (9 : Int32))] [] := by first | (simp [entryFrame, mkF, argsToLocals, Value.category]; done) | rfl
theorem ef_9 (m : MethodId)  : entryFrame m #[(.int (10 : Int32))] 1 = mkF m 0 #[.val (.int (10 : Int32))] [] := by first | (simp [entryFrame, mkF, argsToLocals, Value.category]; done) | rfl
theorem ef_10 (m : MethodId)  : entryFrame m #[(.int (11 : Int32))] 1 = mkF m 0 #[.val (.int (11 : Int32))] [] := by first | (simp [entryFrame, mkF, argsToLocals, Value.category]; done) | rfl
theorem ef_11 (m : MethodId)  : entryFrame m #[(.int (12 : Int32))] 1 = mkF m 0 #[.val (.int (12 : Int32))] [] := by first | (simp [entryFrame, mkF, argsToLocals, Value.category]; done) | rfl
theorem ef_12 (m : MethodId)  : entryFrame m #[(.int (13 : Int32))] 1 = mkF m 0 #[.val (.int (13 : Int32))] [] := by first | (simp [entryFrame, mkF, argsToLocals, Value.category]; done) | rfl
theorem ef_13 (m : MethodId)  : entryFrame m #[(.int (14 : Int32))] 1 = mkF m 0 #[.val (.int (14 : Int32))] [] := by first | (simp [entryFrame, mkF, argsToLocals, Value.category]; done) | rfl
theorem ef_14 (m : MethodId) (x0 : Int32) : entryFrame m #[(.int x0)] maxLocals = mkF m 0 #[.val (.int x0), .unset, .unset] [] := by first | (simp [entryFrame, mkF, argsToLocals, Value.category, maxLocals]; done) | rfl
set_option maxRecDepth 65536 in
set_option maxHeartbeats 40000000 in
theorem rm1_0 (l : Launch) {Z : State} {a0 : Array Value} (H : Hyp Z a0) (h0 : Heap) (Ol : Old Z Z.heap.size h0) :
    Mt l Z (⟨"com/example/twindeck/twindeck/melds/Meld", "rankAt", "(I)Lcom/example/twindeck/twindeck/cards/Rank;"⟩ : MethodName) prog_28_method_12_code 1 (some (.object "com/example/twindeck/twindeck/cards/Rank")) [] ({ frames := 0, cells := 0, slots := 0, locals := 0 } : Room) #[(.int (1 : Int32))] h0 (fun v h L => (v = some (.ref (ad1 Z a0)) ∧ Fr Z.heap.size L ∧ h = h0)) := by
  refine g_body (plainFor_of_name pn_com_example_twindeck_twindeck_melds_Meld) ?_
  intro p e s m below meth c T0 K X0 e0
  refine g_entry (ef_0 m) ?_
  have N0 : Fr Z.heap.size [] := Fr.nil _
  have Ol0 := Ol
  have Kp0 : Keep h0 h0 [] := Keep.refl h0 _
  refine g_gets X0 K (q := 3) (w5 H) e0 ((s0 H).ext Ol0.2) d1_0 rfl ?_
  intro T1 X1 e1
  refine g_iloadN X1 K (q := 4) d1_3 rfl rfl ?_
  refine g_iconst X1 K (q := 5) (v := (1 : Int32)) d1_4 (by decide) rfl ?_
  refine g_isub X1 K (q := 6) d1_5 (z := (0 : Int32)) (by decide) rfl ?_
  refine g_gets X1 K (q := 9) (w5 H) e1 ((s0 H).ext Ol0.2) d1_6 rfl ?_
  intro T2 X2 e2
  refine g_len X2 K (q := 10) e2 ((v0 H).ext Ol0.2) d1_9 rfl ?_
  refine g_irem X2 K (q := 11) d1_10 (by decide) (z := (0 : Int32)) (by decide) rfl ?_
  refine g_aald X2 K (q := 12) (v := (.ref (ad1 Z a0))) e2 ((v0 H).ext Ol0.2) rfl (by decide) rfl d1_11 rfl ?_
  refine g_aret X2 K rfl rfl rfl d1_12 (by decide) (by decide) ?_
  exact ⟨rfl, N0, e2⟩
set_option maxRecDepth 65536 in
set_option maxHeartbeats 40000000 in
theorem rm2_1 (l : Launch) {Z : State} {a0 : Array Value} (H : Hyp Z a0) (h0 : Heap) (Ol : Old Z Z.heap.size h0) :
    Mt l Z (⟨"com/example/twindeck/twindeck/melds/MeldRankAtPinLaw", "expected", "(I)Lcom/example/twindeck/twindeck/cards/Rank;"⟩ : MethodName) method_2_code 1 (some (.object "com/example/twindeck/twindeck/cards/Rank")) [] ({ frames := 0, cells := 0, slots := 0, locals := 0 } : Room) #[(.int (1 : Int32))] h0 (fun v h L => (v = some (.ref (ad1 Z a0)) ∧ Fr Z.heap.size L ∧ h = h0)) := by
  refine g_body (plainFor_of_name pn_com_example_twindeck_twindeck_melds_MeldRankAtPinLaw) ?_
  intro p e s m below meth c T0 K X0 e0
  refine g_entry (ef_0 m) ?_
  have N0 : Fr Z.heap.size [] := Fr.nil _
  have Ol0 := Ol
  have Kp0 : Keep h0 h0 [] := Keep.refl h0 _
  refine g_iloadN X0 K (q := 1) d2_0 rfl rfl ?_
  refine g_iconst X0 K (q := 2) (v := (1 : Int32)) d2_1 (by decide) rfl ?_
  refine g_icN X0 K (q := 5) d2_2 (by decide) rfl ?_
  refine g_gets X0 K (q := 8) (w13 H) e0 ((s1 H).ext Ol0.2) d2_5 rfl ?_
  intro T1 X1 e1
  refine g_aret X1 K rfl rfl rfl d2_8 (by decide) (by decide) ?_
  exact ⟨rfl, N0, e1⟩
set_option maxRecDepth 65536 in
set_option maxHeartbeats 40000000 in
theorem rm1_2 (l : Launch) {Z : State} {a0 : Array Value} (H : Hyp Z a0) (h0 : Heap) (Ol : Old Z Z.heap.size h0) :
    Mt l Z (⟨"com/example/twindeck/twindeck/melds/Meld", "rankAt", "(I)Lcom/example/twindeck/twindeck/cards/Rank;"⟩ : MethodName) prog_28_method_12_code 1 (some (.object "com/example/twindeck/twindeck/cards/Rank")) [] ({ frames := 0, cells := 0, slots := 0, locals := 0 } : Room) #[(.int (2 : Int32))] h0 (fun v h L => (v = some (.ref (ad10 Z a0)) ∧ Fr Z.heap.size L ∧ h = h0)) := by
  refine g_body (plainFor_of_name pn_com_example_twindeck_twindeck_melds_Meld) ?_
  intro p e s m below meth c T0 K X0 e0
  refine g_entry (ef_1 m) ?_
  have N0 : Fr Z.heap.size [] := Fr.nil _
  have Ol0 := Ol
  have Kp0 : Keep h0 h0 [] := Keep.refl h0 _
  refine g_gets X0 K (q := 3) (w5 H) e0 ((s0 H).ext Ol0.2) d1_0 rfl ?_
  intro T1 X1 e1
  refine g_iloadN X1 K (q := 4) d1_3 rfl rfl ?_
  refine g_iconst X1 K (q := 5) (v := (1 : Int32)) d1_4 (by decide) rfl ?_
  refine g_isub X1 K (q := 6) d1_5 (z := (1 : Int32)) (by decide) rfl ?_
  refine g_gets X1 K (q := 9) (w5 H) e1 ((s0 H).ext Ol0.2) d1_6 rfl ?_
  intro T2 X2 e2
  refine g_len X2 K (q := 10) e2 ((v0 H).ext Ol0.2) d1_9 rfl ?_
  refine g_irem X2 K (q := 11) d1_10 (by decide) (z := (1 : Int32)) (by decide) rfl ?_
  refine g_aald X2 K (q := 12) (v := (.ref (ad10 Z a0))) e2 ((v0 H).ext Ol0.2) rfl (by decide) rfl d1_11 rfl ?_
  refine g_aret X2 K rfl rfl rfl d1_12 (by decide) (by decide) ?_
  exact ⟨rfl, N0, e2⟩
set_option maxRecDepth 65536 in
set_option maxHeartbeats 40000000 in
theorem rm2_3 (l : Launch) {Z : State} {a0 : Array Value} (H : Hyp Z a0) (h0 : Heap) (Ol : Old Z Z.heap.size h0) :
    Mt l Z (⟨"com/example/twindeck/twindeck/melds/MeldRankAtPinLaw", "expected", "(I)Lcom/example/twindeck/twindeck/cards/Rank;"⟩ : MethodName) method_2_code 1 (some (.object "com/example/twindeck/twindeck/cards/Rank")) [] ({ frames := 0, cells := 0, slots := 0, locals := 0 } : Room) #[(.int (2 : Int32))] h0 (fun v h L => (v = some (.ref (ad10 Z a0)) ∧ Fr Z.heap.size L ∧ h = h0)) := by
  refine g_body (plainFor_of_name pn_com_example_twindeck_twindeck_melds_MeldRankAtPinLaw) ?_
  intro p e s m below meth c T0 K X0 e0
  refine g_entry (ef_1 m) ?_
  have N0 : Fr Z.heap.size [] := Fr.nil _
  have Ol0 := Ol
  have Kp0 : Keep h0 h0 [] := Keep.refl h0 _
  refine g_iloadN X0 K (q := 1) d2_0 rfl rfl ?_
  refine g_iconst X0 K (q := 2) (v := (1 : Int32)) d2_1 (by decide) rfl ?_
  refine g_icY X0 K (q := 9) d2_2 (by decide) (by decide) (by decide) ?_
  refine g_iloadN X0 K (q := 10) d2_9 rfl rfl ?_
  refine g_iconst X0 K (q := 11) (v := (2 : Int32)) d2_10 (by decide) rfl ?_
  refine g_icN X0 K (q := 14) d2_11 (by decide) rfl ?_
  refine g_gets X0 K (q := 17) (w31 H) e0 ((s10 H).ext Ol0.2) d2_14 rfl ?_
  intro T1 X1 e1
  refine g_aret X1 K rfl rfl rfl d2_17 (by decide) (by decide) ?_
  exact ⟨rfl, N0, e1⟩
set_option maxRecDepth 65536 in
set_option maxHeartbeats 40000000 in
theorem rm1_4 (l : Launch) {Z : State} {a0 : Array Value} (H : Hyp Z a0) (h0 : Heap) (Ol : Old Z Z.heap.size h0) :
    Mt l Z (⟨"com/example/twindeck/twindeck/melds/Meld", "rankAt", "(I)Lcom/example/twindeck/twindeck/cards/Rank;"⟩ : MethodName) prog_28_method_12_code 1 (some (.object "com/example/twindeck/twindeck/cards/Rank")) [] ({ frames := 0, cells := 0, slots := 0, locals := 0 } : Room) #[(.int (3 : Int32))] h0 (fun v h L => (v = some (.ref (ad6 Z a0)) ∧ Fr Z.heap.size L ∧ h = h0)) := by
  refine g_body (plainFor_of_name pn_com_example_twindeck_twindeck_melds_Meld) ?_
  intro p e s m below meth c T0 K X0 e0
  refine g_entry (ef_2 m) ?_
  have N0 : Fr Z.heap.size [] := Fr.nil _
  have Ol0 := Ol
  have Kp0 : Keep h0 h0 [] := Keep.refl h0 _
  refine g_gets X0 K (q := 3) (w5 H) e0 ((s0 H).ext Ol0.2) d1_0 rfl ?_
  intro T1 X1 e1
  refine g_iloadN X1 K (q := 4) d1_3 rfl rfl ?_
  refine g_iconst X1 K (q := 5) (v := (1 : Int32)) d1_4 (by decide) rfl ?_
  refine g_isub X1 K (q := 6) d1_5 (z := (2 : Int32)) (by decide) rfl ?_
  refine g_gets X1 K (q := 9) (w5 H) e1 ((s0 H).ext Ol0.2) d1_6 rfl ?_
  intro T2 X2 e2
  refine g_len X2 K (q := 10) e2 ((v0 H).ext Ol0.2) d1_9 rfl ?_
  refine g_irem X2 K (q := 11) d1_10 (by decide) (z := (2 : Int32)) (by decide) rfl ?_
  refine g_aald X2 K (q := 12) (v := (.ref (ad6 Z a0))) e2 ((v0 H).ext Ol0.2) rfl (by decide) rfl d1_11 rfl ?_
  refine g_aret X2 K rfl rfl rfl d1_12 (by decide) (by decide) ?_
  exact ⟨rfl, N0, e2⟩
set_option maxRecDepth 65536 in
set_option maxHeartbeats 40000000 in
theorem rm2_5 (l : Launch) {Z : State} {a0 : Array Value} (H : Hyp Z a0) (h0 : Heap) (Ol : Old Z Z.heap.size h0) :
    Mt l Z (⟨"com/example/twindeck/twindeck/melds/MeldRankAtPinLaw", "expected", "(I)Lcom/example/twindeck/twindeck/cards/Rank;"⟩ : MethodName) method_2_code 1 (some (.object "com/example/twindeck/twindeck/cards/Rank")) [] ({ frames := 0, cells := 0, slots := 0, locals := 0 } : Room) #[(.int (3 : Int32))] h0 (fun v h L => (v = some (.ref (ad6 Z a0)) ∧ Fr Z.heap.size L ∧ h = h0)) := by
  refine g_body (plainFor_of_name pn_com_example_twindeck_twindeck_melds_MeldRankAtPinLaw) ?_
  intro p e s m below meth c T0 K X0 e0
  refine g_entry (ef_2 m) ?_
  have N0 : Fr Z.heap.size [] := Fr.nil _
  have Ol0 := Ol
  have Kp0 : Keep h0 h0 [] := Keep.refl h0 _
  refine g_iloadN X0 K (q := 1) d2_0 rfl rfl ?_
  refine g_iconst X0 K (q := 2) (v := (1 : Int32)) d2_1 (by decide) rfl ?_
  refine g_icY X0 K (q := 9) d2_2 (by decide) (by decide) (by decide) ?_
  refine g_iloadN X0 K (q := 10) d2_9 rfl rfl ?_
  refine g_iconst X0 K (q := 11) (v := (2 : Int32)) d2_10 (by decide) rfl ?_
  refine g_icY X0 K (q := 18) d2_11 (by decide) (by decide) (by decide) ?_
  refine g_iloadN X0 K (q := 19) d2_18 rfl rfl ?_
  refine g_iconst X0 K (q := 20) (v := (3 : Int32)) d2_19 (by decide) rfl ?_
  refine g_icN X0 K (q := 23) d2_20 (by decide) rfl ?_
  refine g_gets X0 K (q := 26) (w23 H) e0 ((s6 H).ext Ol0.2) d2_23 rfl ?_
  intro T1 X1 e1
  refine g_aret X1 K rfl rfl rfl d2_26 (by decide) (by decide) ?_
  exact ⟨rfl, N0, e1⟩
set_option maxRecDepth 65536 in
set_option maxHeartbeats 40000000 in
theorem rm1_6 (l : Launch) {Z : State} {a0 : Array Value} (H : Hyp Z a0) (h0 : Heap) (Ol : Old Z Z.heap.size h0) :
    Mt l Z (⟨"com/example/twindeck/twindeck/melds/Meld", "rankAt", "(I)Lcom/example/twindeck/twindeck/cards/Rank;"⟩ : MethodName) prog_28_method_12_code 1 (some (.object "com/example/twindeck/twindeck/cards/Rank")) [] ({ frames := 0, cells := 0, slots := 0, locals := 0 } : Room) #[(.int (4 : Int32))] h0 (fun v h L => (v = some (.ref (ad2 Z a0)) ∧ Fr Z.heap.size L ∧ h = h0)) := by
  refine g_body (plainFor_of_name pn_com_example_twindeck_twindeck_melds_Meld) ?_
  intro p e s m below meth c T0 K X0 e0
  refine g_entry (ef_3 m) ?_
  have N0 : Fr Z.heap.size [] := Fr.nil _
  have Ol0 := Ol
  have Kp0 : Keep h0 h0 [] := Keep.refl h0 _
  refine g_gets X0 K (q := 3) (w5 H) e0 ((s0 H).ext Ol0.2) d1_0 rfl ?_
  intro T1 X1 e1
  refine g_iloadN X1 K (q := 4) d1_3 rfl rfl ?_
  refine g_iconst X1 K (q := 5) (v := (1 : Int32)) d1_4 (by decide) rfl ?_
  refine g_isub X1 K (q := 6) d1_5 (z := (3 : Int32)) (by decide) rfl ?_
  refine g_gets X1 K (q := 9) (w5 H) e1 ((s0 H).ext Ol0.2) d1_6 rfl ?_
  intro T2 X2 e2
  refine g_len X2 K (q := 10) e2 ((v0 H).ext Ol0.2) d1_9 rfl ?_
  refine g_irem X2 K (q := 11) d1_10 (by decide) (z := (3 : Int32)) (by decide) rfl ?_
  refine g_aald X2 K (q := 12) (v := (.ref (ad2 Z a0))) e2 ((v0 H).ext Ol0.2) rfl (by decide) rfl d1_11 rfl ?_
  refine g_aret X2 K rfl rfl rfl d1_12 (by decide) (by decide) ?_
  exact ⟨rfl, N0, e2⟩
set_option maxRecDepth 65536 in
set_option maxHeartbeats 40000000 in
theorem rm2_7 (l : Launch) {Z : State} {a0 : Array Value} (H : Hyp Z a0) (h0 : Heap) (Ol : Old Z Z.heap.size h0) :
    Mt l Z (⟨"com/example/twindeck/twindeck/melds/MeldRankAtPinLaw", "expected", "(I)Lcom/example/twindeck/twindeck/cards/Rank;"⟩ : MethodName) method_2_code 1 (some (.object "com/example/twindeck/twindeck/cards/Rank")) [] ({ frames := 0, cells := 0, slots := 0, locals := 0 } : Room) #[(.int (4 : Int32))] h0 (fun v h L => (v = some (.ref (ad2 Z a0)) ∧ Fr Z.heap.size L ∧ h = h0)) := by
  refine g_body (plainFor_of_name pn_com_example_twindeck_twindeck_melds_MeldRankAtPinLaw) ?_
  intro p e s m below meth c T0 K X0 e0
  refine g_entry (ef_3 m) ?_
  have N0 : Fr Z.heap.size [] := Fr.nil _
  have Ol0 := Ol
  have Kp0 : Keep h0 h0 [] := Keep.refl h0 _
  refine g_iloadN X0 K (q := 1) d2_0 rfl rfl ?_
  refine g_iconst X0 K (q := 2) (v := (1 : Int32)) d2_1 (by decide) rfl ?_
  refine g_icY X0 K (q := 9) d2_2 (by decide) (by decide) (by decide) ?_
  refine g_iloadN X0 K (q := 10) d2_9 rfl rfl ?_
  refine g_iconst X0 K (q := 11) (v := (2 : Int32)) d2_10 (by decide) rfl ?_
  refine g_icY X0 K (q := 18) d2_11 (by decide) (by decide) (by decide) ?_
  refine g_iloadN X0 K (q := 19) d2_18 rfl rfl ?_
  refine g_iconst X0 K (q := 20) (v := (3 : Int32)) d2_19 (by decide) rfl ?_
  refine g_icY X0 K (q := 27) d2_20 (by decide) (by decide) (by decide) ?_
  refine g_iloadN X0 K (q := 28) d2_27 rfl rfl ?_
  refine g_iconst X0 K (q := 29) (v := (4 : Int32)) d2_28 (by decide) rfl ?_
  refine g_icN X0 K (q := 32) d2_29 (by decide) rfl ?_
  refine g_gets X0 K (q := 35) (w15 H) e0 ((s2 H).ext Ol0.2) d2_32 rfl ?_
  intro T1 X1 e1
  refine g_aret X1 K rfl rfl rfl d2_35 (by decide) (by decide) ?_
  exact ⟨rfl, N0, e1⟩
set_option maxRecDepth 65536 in
set_option maxHeartbeats 40000000 in
theorem rm1_8 (l : Launch) {Z : State} {a0 : Array Value} (H : Hyp Z a0) (h0 : Heap) (Ol : Old Z Z.heap.size h0) :
    Mt l Z (⟨"com/example/twindeck/twindeck/melds/Meld", "rankAt", "(I)Lcom/example/twindeck/twindeck/cards/Rank;"⟩ : MethodName) prog_28_method_12_code 1 (some (.object "com/example/twindeck/twindeck/cards/Rank")) [] ({ frames := 0, cells := 0, slots := 0, locals := 0 } : Room) #[(.int (5 : Int32))] h0 (fun v h L => (v = some (.ref (ad4 Z a0)) ∧ Fr Z.heap.size L ∧ h = h0)) := by
  refine g_body (plainFor_of_name pn_com_example_twindeck_twindeck_melds_Meld) ?_
  intro p e s m below meth c T0 K X0 e0
  refine g_entry (ef_4 m) ?_
  have N0 : Fr Z.heap.size [] := Fr.nil _
  have Ol0 := Ol
  have Kp0 : Keep h0 h0 [] := Keep.refl h0 _
  refine g_gets X0 K (q := 3) (w5 H) e0 ((s0 H).ext Ol0.2) d1_0 rfl ?_
  intro T1 X1 e1
  refine g_iloadN X1 K (q := 4) d1_3 rfl rfl ?_
  refine g_iconst X1 K (q := 5) (v := (1 : Int32)) d1_4 (by decide) rfl ?_
  refine g_isub X1 K (q := 6) d1_5 (z := (4 : Int32)) (by decide) rfl ?_
  refine g_gets X1 K (q := 9) (w5 H) e1 ((s0 H).ext Ol0.2) d1_6 rfl ?_
  intro T2 X2 e2
  refine g_len X2 K (q := 10) e2 ((v0 H).ext Ol0.2) d1_9 rfl ?_
  refine g_irem X2 K (q := 11) d1_10 (by decide) (z := (4 : Int32)) (by decide) rfl ?_
  refine g_aald X2 K (q := 12) (v := (.ref (ad4 Z a0))) e2 ((v0 H).ext Ol0.2) rfl (by decide) rfl d1_11 rfl ?_
  refine g_aret X2 K rfl rfl rfl d1_12 (by decide) (by decide) ?_
  exact ⟨rfl, N0, e2⟩
set_option maxRecDepth 65536 in
set_option maxHeartbeats 40000000 in
theorem rm2_9 (l : Launch) {Z : State} {a0 : Array Value} (H : Hyp Z a0) (h0 : Heap) (Ol : Old Z Z.heap.size h0) :
    Mt l Z (⟨"com/example/twindeck/twindeck/melds/MeldRankAtPinLaw", "expected", "(I)Lcom/example/twindeck/twindeck/cards/Rank;"⟩ : MethodName) method_2_code 1 (some (.object "com/example/twindeck/twindeck/cards/Rank")) [] ({ frames := 0, cells := 0, slots := 0, locals := 0 } : Room) #[(.int (5 : Int32))] h0 (fun v h L => (v = some (.ref (ad4 Z a0)) ∧ Fr Z.heap.size L ∧ h = h0)) := by
  refine g_body (plainFor_of_name pn_com_example_twindeck_twindeck_melds_MeldRankAtPinLaw) ?_
  intro p e s m below meth c T0 K X0 e0
  refine g_entry (ef_4 m) ?_
  have N0 : Fr Z.heap.size [] := Fr.nil _
  have Ol0 := Ol
  have Kp0 : Keep h0 h0 [] := Keep.refl h0 _
  refine g_iloadN X0 K (q := 1) d2_0 rfl rfl ?_
  refine g_iconst X0 K (q := 2) (v := (1 : Int32)) d2_1 (by decide) rfl ?_
  refine g_icY X0 K (q := 9) d2_2 (by decide) (by decide) (by decide) ?_
  refine g_iloadN X0 K (q := 10) d2_9 rfl rfl ?_
  refine g_iconst X0 K (q := 11) (v := (2 : Int32)) d2_10 (by decide) rfl ?_
  refine g_icY X0 K (q := 18) d2_11 (by decide) (by decide) (by decide) ?_
  refine g_iloadN X0 K (q := 19) d2_18 rfl rfl ?_
  refine g_iconst X0 K (q := 20) (v := (3 : Int32)) d2_19 (by decide) rfl ?_
  refine g_icY X0 K (q := 27) d2_20 (by decide) (by decide) (by decide) ?_
  refine g_iloadN X0 K (q := 28) d2_27 rfl rfl ?_
  refine g_iconst X0 K (q := 29) (v := (4 : Int32)) d2_28 (by decide) rfl ?_
  refine g_icY X0 K (q := 36) d2_29 (by decide) (by decide) (by decide) ?_
  refine g_iloadN X0 K (q := 37) d2_36 rfl rfl ?_
  refine g_iconst X0 K (q := 38) (v := (5 : Int32)) d2_37 (by decide) rfl ?_
  refine g_icN X0 K (q := 41) d2_38 (by decide) rfl ?_
  refine g_gets X0 K (q := 44) (w19 H) e0 ((s4 H).ext Ol0.2) d2_41 rfl ?_
  intro T1 X1 e1
  refine g_aret X1 K rfl rfl rfl d2_44 (by decide) (by decide) ?_
  exact ⟨rfl, N0, e1⟩
set_option maxRecDepth 65536 in
set_option maxHeartbeats 40000000 in
theorem rm1_10 (l : Launch) {Z : State} {a0 : Array Value} (H : Hyp Z a0) (h0 : Heap) (Ol : Old Z Z.heap.size h0) :
    Mt l Z (⟨"com/example/twindeck/twindeck/melds/Meld", "rankAt", "(I)Lcom/example/twindeck/twindeck/cards/Rank;"⟩ : MethodName) prog_28_method_12_code 1 (some (.object "com/example/twindeck/twindeck/cards/Rank")) [] ({ frames := 0, cells := 0, slots := 0, locals := 0 } : Room) #[(.int (6 : Int32))] h0 (fun v h L => (v = some (.ref (ad12 Z a0)) ∧ Fr Z.heap.size L ∧ h = h0)) := by
  refine g_body (plainFor_of_name pn_com_example_twindeck_twindeck_melds_Meld) ?_
  intro p e s m below meth c T0 K X0 e0
  refine g_entry (ef_5 m) ?_
  have N0 : Fr Z.heap.size [] := Fr.nil _
  have Ol0 := Ol
  have Kp0 : Keep h0 h0 [] := Keep.refl h0 _
  refine g_gets X0 K (q := 3) (w5 H) e0 ((s0 H).ext Ol0.2) d1_0 rfl ?_
  intro T1 X1 e1
  refine g_iloadN X1 K (q := 4) d1_3 rfl rfl ?_
  refine g_iconst X1 K (q := 5) (v := (1 : Int32)) d1_4 (by decide) rfl ?_
  refine g_isub X1 K (q := 6) d1_5 (z := (5 : Int32)) (by decide) rfl ?_
  refine g_gets X1 K (q := 9) (w5 H) e1 ((s0 H).ext Ol0.2) d1_6 rfl ?_
  intro T2 X2 e2
  refine g_len X2 K (q := 10) e2 ((v0 H).ext Ol0.2) d1_9 rfl ?_
  refine g_irem X2 K (q := 11) d1_10 (by decide) (z := (5 : Int32)) (by decide) rfl ?_
  refine g_aald X2 K (q := 12) (v := (.ref (ad12 Z a0))) e2 ((v0 H).ext Ol0.2) rfl (by decide) rfl d1_11 rfl ?_
  refine g_aret X2 K rfl rfl rfl d1_12 (by decide) (by decide) ?_
  exact ⟨rfl, N0, e2⟩
set_option maxRecDepth 65536 in
set_option maxHeartbeats 40000000 in
theorem rm2_11 (l : Launch) {Z : State} {a0 : Array Value} (H : Hyp Z a0) (h0 : Heap) (Ol : Old Z Z.heap.size h0) :
    Mt l Z (⟨"com/example/twindeck/twindeck/melds/MeldRankAtPinLaw", "expected", "(I)Lcom/example/twindeck/twindeck/cards/Rank;"⟩ : MethodName) method_2_code 1 (some (.object "com/example/twindeck/twindeck/cards/Rank")) [] ({ frames := 0, cells := 0, slots := 0, locals := 0 } : Room) #[(.int (6 : Int32))] h0 (fun v h L => (v = some (.ref (ad12 Z a0)) ∧ Fr Z.heap.size L ∧ h = h0)) := by
  refine g_body (plainFor_of_name pn_com_example_twindeck_twindeck_melds_MeldRankAtPinLaw) ?_
  intro p e s m below meth c T0 K X0 e0
  refine g_entry (ef_5 m) ?_
  have N0 : Fr Z.heap.size [] := Fr.nil _
  have Ol0 := Ol
  have Kp0 : Keep h0 h0 [] := Keep.refl h0 _
  refine g_iloadN X0 K (q := 1) d2_0 rfl rfl ?_
  refine g_iconst X0 K (q := 2) (v := (1 : Int32)) d2_1 (by decide) rfl ?_
  refine g_icY X0 K (q := 9) d2_2 (by decide) (by decide) (by decide) ?_
  refine g_iloadN X0 K (q := 10) d2_9 rfl rfl ?_
  refine g_iconst X0 K (q := 11) (v := (2 : Int32)) d2_10 (by decide) rfl ?_
  refine g_icY X0 K (q := 18) d2_11 (by decide) (by decide) (by decide) ?_
  refine g_iloadN X0 K (q := 19) d2_18 rfl rfl ?_
  refine g_iconst X0 K (q := 20) (v := (3 : Int32)) d2_19 (by decide) rfl ?_
  refine g_icY X0 K (q := 27) d2_20 (by decide) (by decide) (by decide) ?_
  refine g_iloadN X0 K (q := 28) d2_27 rfl rfl ?_
  refine g_iconst X0 K (q := 29) (v := (4 : Int32)) d2_28 (by decide) rfl ?_
  refine g_icY X0 K (q := 36) d2_29 (by decide) (by decide) (by decide) ?_
  refine g_iloadN X0 K (q := 37) d2_36 rfl rfl ?_
  refine g_iconst X0 K (q := 38) (v := (5 : Int32)) d2_37 (by decide) rfl ?_
  refine g_icY X0 K (q := 45) d2_38 (by decide) (by decide) (by decide) ?_
  refine g_iloadN X0 K (q := 46) d2_45 rfl rfl ?_
  refine g_bipush X0 K (q := 48) (v := (6 : Int32)) d2_46 (by decide) rfl ?_
  refine g_icN X0 K (q := 51) d2_48 (by decide) rfl ?_
  refine g_gets X0 K (q := 54) (w35 H) e0 ((s12 H).ext Ol0.2) d2_51 rfl ?_
  intro T1 X1 e1
  refine g_aret X1 K rfl rfl rfl d2_54 (by decide) (by decide) ?_
  exact ⟨rfl, N0, e1⟩
set_option maxRecDepth 65536 in
set_option maxHeartbeats 40000000 in
theorem rm1_12 (l : Launch) {Z : State} {a0 : Array Value} (H : Hyp Z a0) (h0 : Heap) (Ol : Old Z Z.heap.size h0) :
    Mt l Z (⟨"com/example/twindeck/twindeck/melds/Meld", "rankAt", "(I)Lcom/example/twindeck/twindeck/cards/Rank;"⟩ : MethodName) prog_28_method_12_code 1 (some (.object "com/example/twindeck/twindeck/cards/Rank")) [] ({ frames := 0, cells := 0, slots := 0, locals := 0 } : Room) #[(.int (7 : Int32))] h0 (fun v h L => (v = some (.ref (ad13 Z a0)) ∧ Fr Z.heap.size L ∧ h = h0)) := by
  refine g_body (plainFor_of_name pn_com_example_twindeck_twindeck_melds_Meld) ?_
  intro p e s m below meth c T0 K X0 e0
  refine g_entry (ef_6 m) ?_
  have N0 : Fr Z.heap.size [] := Fr.nil _
  have Ol0 := Ol
  have Kp0 : Keep h0 h0 [] := Keep.refl h0 _
  refine g_gets X0 K (q := 3) (w5 H) e0 ((s0 H).ext Ol0.2) d1_0 rfl ?_
  intro T1 X1 e1
  refine g_iloadN X1 K (q := 4) d1_3 rfl rfl ?_
  refine g_iconst X1 K (q := 5) (v := (1 : Int32)) d1_4 (by decide) rfl ?_
  refine g_isub X1 K (q := 6) d1_5 (z := (6 : Int32)) (by decide) rfl ?_
  refine g_gets X1 K (q := 9) (w5 H) e1 ((s0 H).ext Ol0.2) d1_6 rfl ?_
  intro T2 X2 e2
  refine g_len X2 K (q := 10) e2 ((v0 H).ext Ol0.2) d1_9 rfl ?_
  refine g_irem X2 K (q := 11) d1_10 (by decide) (z := (6 : Int32)) (by decide) rfl ?_
  refine g_aald X2 K (q := 12) (v := (.ref (ad13 Z a0))) e2 ((v0 H).ext Ol0.2) rfl (by decide) rfl d1_11 rfl ?_
  refine g_aret X2 K rfl rfl rfl d1_12 (by decide) (by decide) ?_
  exact ⟨rfl, N0, e2⟩
set_option maxRecDepth 65536 in
set_option maxHeartbeats 40000000 in
theorem rm2_13 (l : Launch) {Z : State} {a0 : Array Value} (H : Hyp Z a0) (h0 : Heap) (Ol : Old Z Z.heap.size h0) :
    Mt l Z (⟨"com/example/twindeck/twindeck/melds/MeldRankAtPinLaw", "expected", "(I)Lcom/example/twindeck/twindeck/cards/Rank;"⟩ : MethodName) method_2_code 1 (some (.object "com/example/twindeck/twindeck/cards/Rank")) [] ({ frames := 0, cells := 0, slots := 0, locals := 0 } : Room) #[(.int (7 : Int32))] h0 (fun v h L => (v = some (.ref (ad13 Z a0)) ∧ Fr Z.heap.size L ∧ h = h0)) := by
  refine g_body (plainFor_of_name pn_com_example_twindeck_twindeck_melds_MeldRankAtPinLaw) ?_
  intro p e s m below meth c T0 K X0 e0
  refine g_entry (ef_6 m) ?_
  have N0 : Fr Z.heap.size [] := Fr.nil _
  have Ol0 := Ol
  have Kp0 : Keep h0 h0 [] := Keep.refl h0 _
  refine g_iloadN X0 K (q := 1) d2_0 rfl rfl ?_
  refine g_iconst X0 K (q := 2) (v := (1 : Int32)) d2_1 (by decide) rfl ?_
  refine g_icY X0 K (q := 9) d2_2 (by decide) (by decide) (by decide) ?_
  refine g_iloadN X0 K (q := 10) d2_9 rfl rfl ?_
  refine g_iconst X0 K (q := 11) (v := (2 : Int32)) d2_10 (by decide) rfl ?_
  refine g_icY X0 K (q := 18) d2_11 (by decide) (by decide) (by decide) ?_
  refine g_iloadN X0 K (q := 19) d2_18 rfl rfl ?_
  refine g_iconst X0 K (q := 20) (v := (3 : Int32)) d2_19 (by decide) rfl ?_
  refine g_icY X0 K (q := 27) d2_20 (by decide) (by decide) (by decide) ?_
  refine g_iloadN X0 K (q := 28) d2_27 rfl rfl ?_
  refine g_iconst X0 K (q := 29) (v := (4 : Int32)) d2_28 (by decide) rfl ?_
  refine g_icY X0 K (q := 36) d2_29 (by decide) (by decide) (by decide) ?_
  refine g_iloadN X0 K (q := 37) d2_36 rfl rfl ?_
  refine g_iconst X0 K (q := 38) (v := (5 : Int32)) d2_37 (by decide) rfl ?_
  refine g_icY X0 K (q := 45) d2_38 (by decide) (by decide) (by decide) ?_
  refine g_iloadN X0 K (q := 46) d2_45 rfl rfl ?_
  refine g_bipush X0 K (q := 48) (v := (6 : Int32)) d2_46 (by decide) rfl ?_
  refine g_icY X0 K (q := 55) d2_48 (by decide) (by decide) (by decide) ?_
  refine g_iloadN X0 K (q := 56) d2_55 rfl rfl ?_
  refine g_bipush X0 K (q := 58) (v := (7 : Int32)) d2_56 (by decide) rfl ?_
  refine g_icN X0 K (q := 61) d2_58 (by decide) rfl ?_
  refine g_gets X0 K (q := 64) (w37 H) e0 ((s13 H).ext Ol0.2) d2_61 rfl ?_
  intro T1 X1 e1
  refine g_aret X1 K rfl rfl rfl d2_64 (by decide) (by decide) ?_
  exact ⟨rfl, N0, e1⟩
set_option maxRecDepth 65536 in
set_option maxHeartbeats 40000000 in
theorem rm1_14 (l : Launch) {Z : State} {a0 : Array Value} (H : Hyp Z a0) (h0 : Heap) (Ol : Old Z Z.heap.size h0) :
    Mt l Z (⟨"com/example/twindeck/twindeck/melds/Meld", "rankAt", "(I)Lcom/example/twindeck/twindeck/cards/Rank;"⟩ : MethodName) prog_28_method_12_code 1 (some (.object "com/example/twindeck/twindeck/cards/Rank")) [] ({ frames := 0, cells := 0, slots := 0, locals := 0 } : Room) #[(.int (8 : Int32))] h0 (fun v h L => (v = some (.ref (ad5 Z a0)) ∧ Fr Z.heap.size L ∧ h = h0)) := by
  refine g_body (plainFor_of_name pn_com_example_twindeck_twindeck_melds_Meld) ?_
  intro p e s m below meth c T0 K X0 e0
  refine g_entry (ef_7 m) ?_
  have N0 : Fr Z.heap.size [] := Fr.nil _
  have Ol0 := Ol
  have Kp0 : Keep h0 h0 [] := Keep.refl h0 _
  refine g_gets X0 K (q := 3) (w5 H) e0 ((s0 H).ext Ol0.2) d1_0 rfl ?_
  intro T1 X1 e1
  refine g_iloadN X1 K (q := 4) d1_3 rfl rfl ?_
  refine g_iconst X1 K (q := 5) (v := (1 : Int32)) d1_4 (by decide) rfl ?_
  refine g_isub X1 K (q := 6) d1_5 (z := (7 : Int32)) (by decide) rfl ?_
  refine g_gets X1 K (q := 9) (w5 H) e1 ((s0 H).ext Ol0.2) d1_6 rfl ?_
  intro T2 X2 e2
  refine g_len X2 K (q := 10) e2 ((v0 H).ext Ol0.2) d1_9 rfl ?_
  refine g_irem X2 K (q := 11) d1_10 (by decide) (z := (7 : Int32)) (by decide) rfl ?_
  refine g_aald X2 K (q := 12) (v := (.ref (ad5 Z a0))) e2 ((v0 H).ext Ol0.2) rfl (by decide) rfl d1_11 rfl ?_
  refine g_aret X2 K rfl rfl rfl d1_12 (by decide) (by decide) ?_
  exact ⟨rfl, N0, e2⟩
set_option maxRecDepth 65536 in
set_option maxHeartbeats 40000000 in
theorem rm2_15 (l : Launch) {Z : State} {a0 : Array Value} (H : Hyp Z a0) (h0 : Heap) (Ol : Old Z Z.heap.size h0) :
    Mt l Z (⟨"com/example/twindeck/twindeck/melds/MeldRankAtPinLaw", "expected", "(I)Lcom/example/twindeck/twindeck/cards/Rank;"⟩ : MethodName) method_2_code 1 (some (.object "com/example/twindeck/twindeck/cards/Rank")) [] ({ frames := 0, cells := 0, slots := 0, locals := 0 } : Room) #[(.int (8 : Int32))] h0 (fun v h L => (v = some (.ref (ad5 Z a0)) ∧ Fr Z.heap.size L ∧ h = h0)) := by
  refine g_body (plainFor_of_name pn_com_example_twindeck_twindeck_melds_MeldRankAtPinLaw) ?_
  intro p e s m below meth c T0 K X0 e0
  refine g_entry (ef_7 m) ?_
  have N0 : Fr Z.heap.size [] := Fr.nil _
  have Ol0 := Ol
  have Kp0 : Keep h0 h0 [] := Keep.refl h0 _
  refine g_iloadN X0 K (q := 1) d2_0 rfl rfl ?_
  refine g_iconst X0 K (q := 2) (v := (1 : Int32)) d2_1 (by decide) rfl ?_
  refine g_icY X0 K (q := 9) d2_2 (by decide) (by decide) (by decide) ?_
  refine g_iloadN X0 K (q := 10) d2_9 rfl rfl ?_
  refine g_iconst X0 K (q := 11) (v := (2 : Int32)) d2_10 (by decide) rfl ?_
  refine g_icY X0 K (q := 18) d2_11 (by decide) (by decide) (by decide) ?_
  refine g_iloadN X0 K (q := 19) d2_18 rfl rfl ?_
  refine g_iconst X0 K (q := 20) (v := (3 : Int32)) d2_19 (by decide) rfl ?_
  refine g_icY X0 K (q := 27) d2_20 (by decide) (by decide) (by decide) ?_
  refine g_iloadN X0 K (q := 28) d2_27 rfl rfl ?_
  refine g_iconst X0 K (q := 29) (v := (4 : Int32)) d2_28 (by decide) rfl ?_
  refine g_icY X0 K (q := 36) d2_29 (by decide) (by decide) (by decide) ?_
  refine g_iloadN X0 K (q := 37) d2_36 rfl rfl ?_
  refine g_iconst X0 K (q := 38) (v := (5 : Int32)) d2_37 (by decide) rfl ?_
  refine g_icY X0 K (q := 45) d2_38 (by decide) (by decide) (by decide) ?_
  refine g_iloadN X0 K (q := 46) d2_45 rfl rfl ?_
  refine g_bipush X0 K (q := 48) (v := (6 : Int32)) d2_46 (by decide) rfl ?_
  refine g_icY X0 K (q := 55) d2_48 (by decide) (by decide) (by decide) ?_
  refine g_iloadN X0 K (q := 56) d2_55 rfl rfl ?_
  refine g_bipush X0 K (q := 58) (v := (7 : Int32)) d2_56 (by decide) rfl ?_
  refine g_icY X0 K (q := 65) d2_58 (by decide) (by decide) (by decide) ?_
  refine g_iloadN X0 K (q := 66) d2_65 rfl rfl ?_
  refine g_bipush X0 K (q := 68) (v := (8 : Int32)) d2_66 (by decide) rfl ?_
  refine g_icN X0 K (q := 71) d2_68 (by decide) rfl ?_
  refine g_gets X0 K (q := 74) (w21 H) e0 ((s5 H).ext Ol0.2) d2_71 rfl ?_
  intro T1 X1 e1
  refine g_aret X1 K rfl rfl rfl d2_74 (by decide) (by decide) ?_
  exact ⟨rfl, N0, e1⟩
set_option maxRecDepth 65536 in
set_option maxHeartbeats 40000000 in
theorem rm1_16 (l : Launch) {Z : State} {a0 : Array Value} (H : Hyp Z a0) (h0 : Heap) (Ol : Old Z Z.heap.size h0) :
    Mt l Z (⟨"com/example/twindeck/twindeck/melds/Meld", "rankAt", "(I)Lcom/example/twindeck/twindeck/cards/Rank;"⟩ : MethodName) prog_28_method_12_code 1 (some (.object "com/example/twindeck/twindeck/cards/Rank")) [] ({ frames := 0, cells := 0, slots := 0, locals := 0 } : Room) #[(.int (9 : Int32))] h0 (fun v h L => (v = some (.ref (ad9 Z a0)) ∧ Fr Z.heap.size L ∧ h = h0)) := by
  refine g_body (plainFor_of_name pn_com_example_twindeck_twindeck_melds_Meld) ?_
  intro p e s m below meth c T0 K X0 e0
  refine g_entry (ef_8 m) ?_
  have N0 : Fr Z.heap.size [] := Fr.nil _
  have Ol0 := Ol
  have Kp0 : Keep h0 h0 [] := Keep.refl h0 _
  refine g_gets X0 K (q := 3) (w5 H) e0 ((s0 H).ext Ol0.2) d1_0 rfl ?_
  intro T1 X1 e1
  refine g_iloadN X1 K (q := 4) d1_3 rfl rfl ?_
  refine g_iconst X1 K (q := 5) (v := (1 : Int32)) d1_4 (by decide) rfl ?_
  refine g_isub X1 K (q := 6) d1_5 (z := (8 : Int32)) (by decide) rfl ?_
  refine g_gets X1 K (q := 9) (w5 H) e1 ((s0 H).ext Ol0.2) d1_6 rfl ?_
  intro T2 X2 e2
  refine g_len X2 K (q := 10) e2 ((v0 H).ext Ol0.2) d1_9 rfl ?_
  refine g_irem X2 K (q := 11) d1_10 (by decide) (z := (8 : Int32)) (by decide) rfl ?_
  refine g_aald X2 K (q := 12) (v := (.ref (ad9 Z a0))) e2 ((v0 H).ext Ol0.2) rfl (by decide) rfl d1_11 rfl ?_
  refine g_aret X2 K rfl rfl rfl d1_12 (by decide) (by decide) ?_
  exact ⟨rfl, N0, e2⟩
set_option maxRecDepth 65536 in
set_option maxHeartbeats 40000000 in
theorem rm2_17 (l : Launch) {Z : State} {a0 : Array Value} (H : Hyp Z a0) (h0 : Heap) (Ol : Old Z Z.heap.size h0) :
    Mt l Z (⟨"com/example/twindeck/twindeck/melds/MeldRankAtPinLaw", "expected", "(I)Lcom/example/twindeck/twindeck/cards/Rank;"⟩ : MethodName) method_2_code 1 (some (.object "com/example/twindeck/twindeck/cards/Rank")) [] ({ frames := 0, cells := 0, slots := 0, locals := 0 } : Room) #[(.int (9 : Int32))] h0 (fun v h L => (v = some (.ref (ad9 Z a0)) ∧ Fr Z.heap.size L ∧ h = h0)) := by
  refine g_body (plainFor_of_name pn_com_example_twindeck_twindeck_melds_MeldRankAtPinLaw) ?_
  intro p e s m below meth c T0 K X0 e0
  refine g_entry (ef_8 m) ?_
  have N0 : Fr Z.heap.size [] := Fr.nil _
  have Ol0 := Ol
  have Kp0 : Keep h0 h0 [] := Keep.refl h0 _
  refine g_iloadN X0 K (q := 1) d2_0 rfl rfl ?_
  refine g_iconst X0 K (q := 2) (v := (1 : Int32)) d2_1 (by decide) rfl ?_
  refine g_icY X0 K (q := 9) d2_2 (by decide) (by decide) (by decide) ?_
  refine g_iloadN X0 K (q := 10) d2_9 rfl rfl ?_
  refine g_iconst X0 K (q := 11) (v := (2 : Int32)) d2_10 (by decide) rfl ?_
  refine g_icY X0 K (q := 18) d2_11 (by decide) (by decide) (by decide) ?_
  refine g_iloadN X0 K (q := 19) d2_18 rfl rfl ?_
  refine g_iconst X0 K (q := 20) (v := (3 : Int32)) d2_19 (by decide) rfl ?_
  refine g_icY X0 K (q := 27) d2_20 (by decide) (by decide) (by decide) ?_
  refine g_iloadN X0 K (q := 28) d2_27 rfl rfl ?_
  refine g_iconst X0 K (q := 29) (v := (4 : Int32)) d2_28 (by decide) rfl ?_
  refine g_icY X0 K (q := 36) d2_29 (by decide) (by decide) (by decide) ?_
  refine g_iloadN X0 K (q := 37) d2_36 rfl rfl ?_
  refine g_iconst X0 K (q := 38) (v := (5 : Int32)) d2_37 (by decide) rfl ?_
  refine g_icY X0 K (q := 45) d2_38 (by decide) (by decide) (by decide) ?_
  refine g_iloadN X0 K (q := 46) d2_45 rfl rfl ?_
  refine g_bipush X0 K (q := 48) (v := (6 : Int32)) d2_46 (by decide) rfl ?_
  refine g_icY X0 K (q := 55) d2_48 (by decide) (by decide) (by decide) ?_
  refine g_iloadN X0 K (q := 56) d2_55 rfl rfl ?_
  refine g_bipush X0 K (q := 58) (v := (7 : Int32)) d2_56 (by decide) rfl ?_
  refine g_icY X0 K (q := 65) d2_58 (by decide) (by decide) (by decide) ?_
  refine g_iloadN X0 K (q := 66) d2_65 rfl rfl ?_
  refine g_bipush X0 K (q := 68) (v := (8 : Int32)) d2_66 (by decide) rfl ?_
  refine g_icY X0 K (q := 75) d2_68 (by decide) (by decide) (by decide) ?_
  refine g_iloadN X0 K (q := 76) d2_75 rfl rfl ?_
  refine g_bipush X0 K (q := 78) (v := (9 : Int32)) d2_76 (by decide) rfl ?_
  refine g_icN X0 K (q := 81) d2_78 (by decide) rfl ?_
  refine g_gets X0 K (q := 84) (w29 H) e0 ((s9 H).ext Ol0.2) d2_81 rfl ?_
  intro T1 X1 e1
  refine g_aret X1 K rfl rfl rfl d2_84 (by decide) (by decide) ?_
  exact ⟨rfl, N0, e1⟩
set_option maxRecDepth 65536 in
set_option maxHeartbeats 40000000 in
theorem rm1_18 (l : Launch) {Z : State} {a0 : Array Value} (H : Hyp Z a0) (h0 : Heap) (Ol : Old Z Z.heap.size h0) :
    Mt l Z (⟨"com/example/twindeck/twindeck/melds/Meld", "rankAt", "(I)Lcom/example/twindeck/twindeck/cards/Rank;"⟩ : MethodName) prog_28_method_12_code 1 (some (.object "com/example/twindeck/twindeck/cards/Rank")) [] ({ frames := 0, cells := 0, slots := 0, locals := 0 } : Room) #[(.int (10 : Int32))] h0 (fun v h L => (v = some (.ref (ad11 Z a0)) ∧ Fr Z.heap.size L ∧ h = h0)) := by
  refine g_body (plainFor_of_name pn_com_example_twindeck_twindeck_melds_Meld) ?_
  intro p e s m below meth c T0 K X0 e0
  refine g_entry (ef_9 m) ?_
  have N0 : Fr Z.heap.size [] := Fr.nil _
  have Ol0 := Ol
  have Kp0 : Keep h0 h0 [] := Keep.refl h0 _
  refine g_gets X0 K (q := 3) (w5 H) e0 ((s0 H).ext Ol0.2) d1_0 rfl ?_
  intro T1 X1 e1
  refine g_iloadN X1 K (q := 4) d1_3 rfl rfl ?_
  refine g_iconst X1 K (q := 5) (v := (1 : Int32)) d1_4 (by decide) rfl ?_
  refine g_isub X1 K (q := 6) d1_5 (z := (9 : Int32)) (by decide) rfl ?_
  refine g_gets X1 K (q := 9) (w5 H) e1 ((s0 H).ext Ol0.2) d1_6 rfl ?_
  intro T2 X2 e2
  refine g_len X2 K (q := 10) e2 ((v0 H).ext Ol0.2) d1_9 rfl ?_
  refine g_irem X2 K (q := 11) d1_10 (by decide) (z := (9 : Int32)) (by decide) rfl ?_
  refine g_aald X2 K (q := 12) (v := (.ref (ad11 Z a0))) e2 ((v0 H).ext Ol0.2) rfl (by decide) rfl d1_11 rfl ?_
  refine g_aret X2 K rfl rfl rfl d1_12 (by decide) (by decide) ?_
  exact ⟨rfl, N0, e2⟩
set_option maxRecDepth 65536 in
set_option maxHeartbeats 40000000 in
theorem rm2_19 (l : Launch) {Z : State} {a0 : Array Value} (H : Hyp Z a0) (h0 : Heap) (Ol : Old Z Z.heap.size h0) :
    Mt l Z (⟨"com/example/twindeck/twindeck/melds/MeldRankAtPinLaw", "expected", "(I)Lcom/example/twindeck/twindeck/cards/Rank;"⟩ : MethodName) method_2_code 1 (some (.object "com/example/twindeck/twindeck/cards/Rank")) [] ({ frames := 0, cells := 0, slots := 0, locals := 0 } : Room) #[(.int (10 : Int32))] h0 (fun v h L => (v = some (.ref (ad11 Z a0)) ∧ Fr Z.heap.size L ∧ h = h0)) := by
  refine g_body (plainFor_of_name pn_com_example_twindeck_twindeck_melds_MeldRankAtPinLaw) ?_
  intro p e s m below meth c T0 K X0 e0
  refine g_entry (ef_9 m) ?_
  have N0 : Fr Z.heap.size [] := Fr.nil _
  have Ol0 := Ol
  have Kp0 : Keep h0 h0 [] := Keep.refl h0 _
  refine g_iloadN X0 K (q := 1) d2_0 rfl rfl ?_
  refine g_iconst X0 K (q := 2) (v := (1 : Int32)) d2_1 (by decide) rfl ?_
  refine g_icY X0 K (q := 9) d2_2 (by decide) (by decide) (by decide) ?_
  refine g_iloadN X0 K (q := 10) d2_9 rfl rfl ?_
  refine g_iconst X0 K (q := 11) (v := (2 : Int32)) d2_10 (by decide) rfl ?_
  refine g_icY X0 K (q := 18) d2_11 (by decide) (by decide) (by decide) ?_
  refine g_iloadN X0 K (q := 19) d2_18 rfl rfl ?_
  refine g_iconst X0 K (q := 20) (v := (3 : Int32)) d2_19 (by decide) rfl ?_
  refine g_icY X0 K (q := 27) d2_20 (by decide) (by decide) (by decide) ?_
  refine g_iloadN X0 K (q := 28) d2_27 rfl rfl ?_
  refine g_iconst X0 K (q := 29) (v := (4 : Int32)) d2_28 (by decide) rfl ?_
  refine g_icY X0 K (q := 36) d2_29 (by decide) (by decide) (by decide) ?_
  refine g_iloadN X0 K (q := 37) d2_36 rfl rfl ?_
  refine g_iconst X0 K (q := 38) (v := (5 : Int32)) d2_37 (by decide) rfl ?_
  refine g_icY X0 K (q := 45) d2_38 (by decide) (by decide) (by decide) ?_
  refine g_iloadN X0 K (q := 46) d2_45 rfl rfl ?_
  refine g_bipush X0 K (q := 48) (v := (6 : Int32)) d2_46 (by decide) rfl ?_
  refine g_icY X0 K (q := 55) d2_48 (by decide) (by decide) (by decide) ?_
  refine g_iloadN X0 K (q := 56) d2_55 rfl rfl ?_
  refine g_bipush X0 K (q := 58) (v := (7 : Int32)) d2_56 (by decide) rfl ?_
  refine g_icY X0 K (q := 65) d2_58 (by decide) (by decide) (by decide) ?_
  refine g_iloadN X0 K (q := 66) d2_65 rfl rfl ?_
  refine g_bipush X0 K (q := 68) (v := (8 : Int32)) d2_66 (by decide) rfl ?_
  refine g_icY X0 K (q := 75) d2_68 (by decide) (by decide) (by decide) ?_
  refine g_iloadN X0 K (q := 76) d2_75 rfl rfl ?_
  refine g_bipush X0 K (q := 78) (v := (9 : Int32)) d2_76 (by decide) rfl ?_
  refine g_icY X0 K (q := 85) d2_78 (by decide) (by decide) (by decide) ?_
  refine g_iloadN X0 K (q := 86) d2_85 rfl rfl ?_
  refine g_bipush X0 K (q := 88) (v := (10 : Int32)) d2_86 (by decide) rfl ?_
  refine g_icN X0 K (q := 91) d2_88 (by decide) rfl ?_
  refine g_gets X0 K (q := 94) (w33 H) e0 ((s11 H).ext Ol0.2) d2_91 rfl ?_
  intro T1 X1 e1
  refine g_aret X1 K rfl rfl rfl d2_94 (by decide) (by decide) ?_
  exact ⟨rfl, N0, e1⟩
set_option maxRecDepth 65536 in
set_option maxHeartbeats 40000000 in
theorem rm1_20 (l : Launch) {Z : State} {a0 : Array Value} (H : Hyp Z a0) (h0 : Heap) (Ol : Old Z Z.heap.size h0) :
    Mt l Z (⟨"com/example/twindeck/twindeck/melds/Meld", "rankAt", "(I)Lcom/example/twindeck/twindeck/cards/Rank;"⟩ : MethodName) prog_28_method_12_code 1 (some (.object "com/example/twindeck/twindeck/cards/Rank")) [] ({ frames := 0, cells := 0, slots := 0, locals := 0 } : Room) #[(.int (11 : Int32))] h0 (fun v h L => (v = some (.ref (ad8 Z a0)) ∧ Fr Z.heap.size L ∧ h = h0)) := by
  refine g_body (plainFor_of_name pn_com_example_twindeck_twindeck_melds_Meld) ?_
  intro p e s m below meth c T0 K X0 e0
  refine g_entry (ef_10 m) ?_
  have N0 : Fr Z.heap.size [] := Fr.nil _
  have Ol0 := Ol
  have Kp0 : Keep h0 h0 [] := Keep.refl h0 _
  refine g_gets X0 K (q := 3) (w5 H) e0 ((s0 H).ext Ol0.2) d1_0 rfl ?_
  intro T1 X1 e1
  refine g_iloadN X1 K (q := 4) d1_3 rfl rfl ?_
  refine g_iconst X1 K (q := 5) (v := (1 : Int32)) d1_4 (by decide) rfl ?_
  refine g_isub X1 K (q := 6) d1_5 (z := (10 : Int32)) (by decide) rfl ?_
  refine g_gets X1 K (q := 9) (w5 H) e1 ((s0 H).ext Ol0.2) d1_6 rfl ?_
  intro T2 X2 e2
  refine g_len X2 K (q := 10) e2 ((v0 H).ext Ol0.2) d1_9 rfl ?_
  refine g_irem X2 K (q := 11) d1_10 (by decide) (z := (10 : Int32)) (by decide) rfl ?_
  refine g_aald X2 K (q := 12) (v := (.ref (ad8 Z a0))) e2 ((v0 H).ext Ol0.2) rfl (by decide) rfl d1_11 rfl ?_
  refine g_aret X2 K rfl rfl rfl d1_12 (by decide) (by decide) ?_
  exact ⟨rfl, N0, e2⟩
set_option maxRecDepth 65536 in
set_option maxHeartbeats 40000000 in
theorem rm2_21 (l : Launch) {Z : State} {a0 : Array Value} (H : Hyp Z a0) (h0 : Heap) (Ol : Old Z Z.heap.size h0) :
    Mt l Z (⟨"com/example/twindeck/twindeck/melds/MeldRankAtPinLaw", "expected", "(I)Lcom/example/twindeck/twindeck/cards/Rank;"⟩ : MethodName) method_2_code 1 (some (.object "com/example/twindeck/twindeck/cards/Rank")) [] ({ frames := 0, cells := 0, slots := 0, locals := 0 } : Room) #[(.int (11 : Int32))] h0 (fun v h L => (v = some (.ref (ad8 Z a0)) ∧ Fr Z.heap.size L ∧ h = h0)) := by
  refine g_body (plainFor_of_name pn_com_example_twindeck_twindeck_melds_MeldRankAtPinLaw) ?_
  intro p e s m below meth c T0 K X0 e0
  refine g_entry (ef_10 m) ?_
  have N0 : Fr Z.heap.size [] := Fr.nil _
  have Ol0 := Ol
  have Kp0 : Keep h0 h0 [] := Keep.refl h0 _
  refine g_iloadN X0 K (q := 1) d2_0 rfl rfl ?_
  refine g_iconst X0 K (q := 2) (v := (1 : Int32)) d2_1 (by decide) rfl ?_
  refine g_icY X0 K (q := 9) d2_2 (by decide) (by decide) (by decide) ?_
  refine g_iloadN X0 K (q := 10) d2_9 rfl rfl ?_
  refine g_iconst X0 K (q := 11) (v := (2 : Int32)) d2_10 (by decide) rfl ?_
  refine g_icY X0 K (q := 18) d2_11 (by decide) (by decide) (by decide) ?_
  refine g_iloadN X0 K (q := 19) d2_18 rfl rfl ?_
  refine g_iconst X0 K (q := 20) (v := (3 : Int32)) d2_19 (by decide) rfl ?_
  refine g_icY X0 K (q := 27) d2_20 (by decide) (by decide) (by decide) ?_
  refine g_iloadN X0 K (q := 28) d2_27 rfl rfl ?_
  refine g_iconst X0 K (q := 29) (v := (4 : Int32)) d2_28 (by decide) rfl ?_
  refine g_icY X0 K (q := 36) d2_29 (by decide) (by decide) (by decide) ?_
  refine g_iloadN X0 K (q := 37) d2_36 rfl rfl ?_
  refine g_iconst X0 K (q := 38) (v := (5 : Int32)) d2_37 (by decide) rfl ?_
  refine g_icY X0 K (q := 45) d2_38 (by decide) (by decide) (by decide) ?_
  refine g_iloadN X0 K (q := 46) d2_45 rfl rfl ?_
  refine g_bipush X0 K (q := 48) (v := (6 : Int32)) d2_46 (by decide) rfl ?_
  refine g_icY X0 K (q := 55) d2_48 (by decide) (by decide) (by decide) ?_
  refine g_iloadN X0 K (q := 56) d2_55 rfl rfl ?_
  refine g_bipush X0 K (q := 58) (v := (7 : Int32)) d2_56 (by decide) rfl ?_
  refine g_icY X0 K (q := 65) d2_58 (by decide) (by decide) (by decide) ?_
  refine g_iloadN X0 K (q := 66) d2_65 rfl rfl ?_
  refine g_bipush X0 K (q := 68) (v := (8 : Int32)) d2_66 (by decide) rfl ?_
  refine g_icY X0 K (q := 75) d2_68 (by decide) (by decide) (by decide) ?_
  refine g_iloadN X0 K (q := 76) d2_75 rfl rfl ?_
  refine g_bipush X0 K (q := 78) (v := (9 : Int32)) d2_76 (by decide) rfl ?_
  refine g_icY X0 K (q := 85) d2_78 (by decide) (by decide) (by decide) ?_
  refine g_iloadN X0 K (q := 86) d2_85 rfl rfl ?_
  refine g_bipush X0 K (q := 88) (v := (10 : Int32)) d2_86 (by decide) rfl ?_
  refine g_icY X0 K (q := 95) d2_88 (by decide) (by decide) (by decide) ?_
  refine g_iloadN X0 K (q := 96) d2_95 rfl rfl ?_
  refine g_bipush X0 K (q := 98) (v := (11 : Int32)) d2_96 (by decide) rfl ?_
  refine g_icN X0 K (q := 101) d2_98 (by decide) rfl ?_
  refine g_gets X0 K (q := 104) (w27 H) e0 ((s8 H).ext Ol0.2) d2_101 rfl ?_
  intro T1 X1 e1
  refine g_aret X1 K rfl rfl rfl d2_104 (by decide) (by decide) ?_
  exact ⟨rfl, N0, e1⟩
set_option maxRecDepth 65536 in
set_option maxHeartbeats 40000000 in
theorem rm1_22 (l : Launch) {Z : State} {a0 : Array Value} (H : Hyp Z a0) (h0 : Heap) (Ol : Old Z Z.heap.size h0) :
    Mt l Z (⟨"com/example/twindeck/twindeck/melds/Meld", "rankAt", "(I)Lcom/example/twindeck/twindeck/cards/Rank;"⟩ : MethodName) prog_28_method_12_code 1 (some (.object "com/example/twindeck/twindeck/cards/Rank")) [] ({ frames := 0, cells := 0, slots := 0, locals := 0 } : Room) #[(.int (12 : Int32))] h0 (fun v h L => (v = some (.ref (ad7 Z a0)) ∧ Fr Z.heap.size L ∧ h = h0)) := by
  refine g_body (plainFor_of_name pn_com_example_twindeck_twindeck_melds_Meld) ?_
  intro p e s m below meth c T0 K X0 e0
  refine g_entry (ef_11 m) ?_
  have N0 : Fr Z.heap.size [] := Fr.nil _
  have Ol0 := Ol
  have Kp0 : Keep h0 h0 [] := Keep.refl h0 _
  refine g_gets X0 K (q := 3) (w5 H) e0 ((s0 H).ext Ol0.2) d1_0 rfl ?_
  intro T1 X1 e1
  refine g_iloadN X1 K (q := 4) d1_3 rfl rfl ?_
  refine g_iconst X1 K (q := 5) (v := (1 : Int32)) d1_4 (by decide) rfl ?_
  refine g_isub X1 K (q := 6) d1_5 (z := (11 : Int32)) (by decide) rfl ?_
  refine g_gets X1 K (q := 9) (w5 H) e1 ((s0 H).ext Ol0.2) d1_6 rfl ?_
  intro T2 X2 e2
  refine g_len X2 K (q := 10) e2 ((v0 H).ext Ol0.2) d1_9 rfl ?_
  refine g_irem X2 K (q := 11) d1_10 (by decide) (z := (11 : Int32)) (by decide) rfl ?_
  refine g_aald X2 K (q := 12) (v := (.ref (ad7 Z a0))) e2 ((v0 H).ext Ol0.2) rfl (by decide) rfl d1_11 rfl ?_
  refine g_aret X2 K rfl rfl rfl d1_12 (by decide) (by decide) ?_
  exact ⟨rfl, N0, e2⟩
set_option maxRecDepth 65536 in
set_option maxHeartbeats 40000000 in
theorem rm2_23 (l : Launch) {Z : State} {a0 : Array Value} (H : Hyp Z a0) (h0 : Heap) (Ol : Old Z Z.heap.size h0) :
    Mt l Z (⟨"com/example/twindeck/twindeck/melds/MeldRankAtPinLaw", "expected", "(I)Lcom/example/twindeck/twindeck/cards/Rank;"⟩ : MethodName) method_2_code 1 (some (.object "com/example/twindeck/twindeck/cards/Rank")) [] ({ frames := 0, cells := 0, slots := 0, locals := 0 } : Room) #[(.int (12 : Int32))] h0 (fun v h L => (v = some (.ref (ad7 Z a0)) ∧ Fr Z.heap.size L ∧ h = h0)) := by
  refine g_body (plainFor_of_name pn_com_example_twindeck_twindeck_melds_MeldRankAtPinLaw) ?_
  intro p e s m below meth c T0 K X0 e0
  refine g_entry (ef_11 m) ?_
  have N0 : Fr Z.heap.size [] := Fr.nil _
  have Ol0 := Ol
  have Kp0 : Keep h0 h0 [] := Keep.refl h0 _
  refine g_iloadN X0 K (q := 1) d2_0 rfl rfl ?_
  refine g_iconst X0 K (q := 2) (v := (1 : Int32)) d2_1 (by decide) rfl ?_
  refine g_icY X0 K (q := 9) d2_2 (by decide) (by decide) (by decide) ?_
  refine g_iloadN X0 K (q := 10) d2_9 rfl rfl ?_
  refine g_iconst X0 K (q := 11) (v := (2 : Int32)) d2_10 (by decide) rfl ?_
  refine g_icY X0 K (q := 18) d2_11 (by decide) (by decide) (by decide) ?_
  refine g_iloadN X0 K (q := 19) d2_18 rfl rfl ?_
  refine g_iconst X0 K (q := 20) (v := (3 : Int32)) d2_19 (by decide) rfl ?_
  refine g_icY X0 K (q := 27) d2_20 (by decide) (by decide) (by decide) ?_
  refine g_iloadN X0 K (q := 28) d2_27 rfl rfl ?_
  refine g_iconst X0 K (q := 29) (v := (4 : Int32)) d2_28 (by decide) rfl ?_
  refine g_icY X0 K (q := 36) d2_29 (by decide) (by decide) (by decide) ?_
  refine g_iloadN X0 K (q := 37) d2_36 rfl rfl ?_
  refine g_iconst X0 K (q := 38) (v := (5 : Int32)) d2_37 (by decide) rfl ?_
  refine g_icY X0 K (q := 45) d2_38 (by decide) (by decide) (by decide) ?_
  refine g_iloadN X0 K (q := 46) d2_45 rfl rfl ?_
  refine g_bipush X0 K (q := 48) (v := (6 : Int32)) d2_46 (by decide) rfl ?_
  refine g_icY X0 K (q := 55) d2_48 (by decide) (by decide) (by decide) ?_
  refine g_iloadN X0 K (q := 56) d2_55 rfl rfl ?_
  refine g_bipush X0 K (q := 58) (v := (7 : Int32)) d2_56 (by decide) rfl ?_
  refine g_icY X0 K (q := 65) d2_58 (by decide) (by decide) (by decide) ?_
  refine g_iloadN X0 K (q := 66) d2_65 rfl rfl ?_
  refine g_bipush X0 K (q := 68) (v := (8 : Int32)) d2_66 (by decide) rfl ?_
  refine g_icY X0 K (q := 75) d2_68 (by decide) (by decide) (by decide) ?_
  refine g_iloadN X0 K (q := 76) d2_75 rfl rfl ?_
  refine g_bipush X0 K (q := 78) (v := (9 : Int32)) d2_76 (by decide) rfl ?_
  refine g_icY X0 K (q := 85) d2_78 (by decide) (by decide) (by decide) ?_
  refine g_iloadN X0 K (q := 86) d2_85 rfl rfl ?_
  refine g_bipush X0 K (q := 88) (v := (10 : Int32)) d2_86 (by decide) rfl ?_
  refine g_icY X0 K (q := 95) d2_88 (by decide) (by decide) (by decide) ?_
  refine g_iloadN X0 K (q := 96) d2_95 rfl rfl ?_
  refine g_bipush X0 K (q := 98) (v := (11 : Int32)) d2_96 (by decide) rfl ?_
  refine g_icY X0 K (q := 105) d2_98 (by decide) (by decide) (by decide) ?_
  refine g_iloadN X0 K (q := 106) d2_105 rfl rfl ?_
  refine g_bipush X0 K (q := 108) (v := (12 : Int32)) d2_106 (by decide) rfl ?_
  refine g_icN X0 K (q := 111) d2_108 (by decide) rfl ?_
  refine g_gets X0 K (q := 114) (w25 H) e0 ((s7 H).ext Ol0.2) d2_111 rfl ?_
  intro T1 X1 e1
  refine g_aret X1 K rfl rfl rfl d2_114 (by decide) (by decide) ?_
  exact ⟨rfl, N0, e1⟩
set_option maxRecDepth 65536 in
set_option maxHeartbeats 40000000 in
theorem rm1_24 (l : Launch) {Z : State} {a0 : Array Value} (H : Hyp Z a0) (h0 : Heap) (Ol : Old Z Z.heap.size h0) :
    Mt l Z (⟨"com/example/twindeck/twindeck/melds/Meld", "rankAt", "(I)Lcom/example/twindeck/twindeck/cards/Rank;"⟩ : MethodName) prog_28_method_12_code 1 (some (.object "com/example/twindeck/twindeck/cards/Rank")) [] ({ frames := 0, cells := 0, slots := 0, locals := 0 } : Room) #[(.int (13 : Int32))] h0 (fun v h L => (v = some (.ref (ad3 Z a0)) ∧ Fr Z.heap.size L ∧ h = h0)) := by
  refine g_body (plainFor_of_name pn_com_example_twindeck_twindeck_melds_Meld) ?_
  intro p e s m below meth c T0 K X0 e0
  refine g_entry (ef_12 m) ?_
  have N0 : Fr Z.heap.size [] := Fr.nil _
  have Ol0 := Ol
  have Kp0 : Keep h0 h0 [] := Keep.refl h0 _
  refine g_gets X0 K (q := 3) (w5 H) e0 ((s0 H).ext Ol0.2) d1_0 rfl ?_
  intro T1 X1 e1
  refine g_iloadN X1 K (q := 4) d1_3 rfl rfl ?_
  refine g_iconst X1 K (q := 5) (v := (1 : Int32)) d1_4 (by decide) rfl ?_
  refine g_isub X1 K (q := 6) d1_5 (z := (12 : Int32)) (by decide) rfl ?_
  refine g_gets X1 K (q := 9) (w5 H) e1 ((s0 H).ext Ol0.2) d1_6 rfl ?_
  intro T2 X2 e2
  refine g_len X2 K (q := 10) e2 ((v0 H).ext Ol0.2) d1_9 rfl ?_
  refine g_irem X2 K (q := 11) d1_10 (by decide) (z := (12 : Int32)) (by decide) rfl ?_
  refine g_aald X2 K (q := 12) (v := (.ref (ad3 Z a0))) e2 ((v0 H).ext Ol0.2) rfl (by decide) rfl d1_11 rfl ?_
  refine g_aret X2 K rfl rfl rfl d1_12 (by decide) (by decide) ?_
  exact ⟨rfl, N0, e2⟩
set_option maxRecDepth 65536 in
set_option maxHeartbeats 40000000 in
theorem rm2_25 (l : Launch) {Z : State} {a0 : Array Value} (H : Hyp Z a0) (h0 : Heap) (Ol : Old Z Z.heap.size h0) :
    Mt l Z (⟨"com/example/twindeck/twindeck/melds/MeldRankAtPinLaw", "expected", "(I)Lcom/example/twindeck/twindeck/cards/Rank;"⟩ : MethodName) method_2_code 1 (some (.object "com/example/twindeck/twindeck/cards/Rank")) [] ({ frames := 0, cells := 0, slots := 0, locals := 0 } : Room) #[(.int (13 : Int32))] h0 (fun v h L => (v = some (.ref (ad3 Z a0)) ∧ Fr Z.heap.size L ∧ h = h0)) := by
  refine g_body (plainFor_of_name pn_com_example_twindeck_twindeck_melds_MeldRankAtPinLaw) ?_
  intro p e s m below meth c T0 K X0 e0
  refine g_entry (ef_12 m) ?_
  have N0 : Fr Z.heap.size [] := Fr.nil _
  have Ol0 := Ol
  have Kp0 : Keep h0 h0 [] := Keep.refl h0 _
  refine g_iloadN X0 K (q := 1) d2_0 rfl rfl ?_
  refine g_iconst X0 K (q := 2) (v := (1 : Int32)) d2_1 (by decide) rfl ?_
  refine g_icY X0 K (q := 9) d2_2 (by decide) (by decide) (by decide) ?_
  refine g_iloadN X0 K (q := 10) d2_9 rfl rfl ?_
  refine g_iconst X0 K (q := 11) (v := (2 : Int32)) d2_10 (by decide) rfl ?_
  refine g_icY X0 K (q := 18) d2_11 (by decide) (by decide) (by decide) ?_
  refine g_iloadN X0 K (q := 19) d2_18 rfl rfl ?_
  refine g_iconst X0 K (q := 20) (v := (3 : Int32)) d2_19 (by decide) rfl ?_
  refine g_icY X0 K (q := 27) d2_20 (by decide) (by decide) (by decide) ?_
  refine g_iloadN X0 K (q := 28) d2_27 rfl rfl ?_
  refine g_iconst X0 K (q := 29) (v := (4 : Int32)) d2_28 (by decide) rfl ?_
  refine g_icY X0 K (q := 36) d2_29 (by decide) (by decide) (by decide) ?_
  refine g_iloadN X0 K (q := 37) d2_36 rfl rfl ?_
  refine g_iconst X0 K (q := 38) (v := (5 : Int32)) d2_37 (by decide) rfl ?_
  refine g_icY X0 K (q := 45) d2_38 (by decide) (by decide) (by decide) ?_
  refine g_iloadN X0 K (q := 46) d2_45 rfl rfl ?_
  refine g_bipush X0 K (q := 48) (v := (6 : Int32)) d2_46 (by decide) rfl ?_
  refine g_icY X0 K (q := 55) d2_48 (by decide) (by decide) (by decide) ?_
  refine g_iloadN X0 K (q := 56) d2_55 rfl rfl ?_
  refine g_bipush X0 K (q := 58) (v := (7 : Int32)) d2_56 (by decide) rfl ?_
  refine g_icY X0 K (q := 65) d2_58 (by decide) (by decide) (by decide) ?_
  refine g_iloadN X0 K (q := 66) d2_65 rfl rfl ?_
  refine g_bipush X0 K (q := 68) (v := (8 : Int32)) d2_66 (by decide) rfl ?_
  refine g_icY X0 K (q := 75) d2_68 (by decide) (by decide) (by decide) ?_
  refine g_iloadN X0 K (q := 76) d2_75 rfl rfl ?_
  refine g_bipush X0 K (q := 78) (v := (9 : Int32)) d2_76 (by decide) rfl ?_
  refine g_icY X0 K (q := 85) d2_78 (by decide) (by decide) (by decide) ?_
  refine g_iloadN X0 K (q := 86) d2_85 rfl rfl ?_
  refine g_bipush X0 K (q := 88) (v := (10 : Int32)) d2_86 (by decide) rfl ?_
  refine g_icY X0 K (q := 95) d2_88 (by decide) (by decide) (by decide) ?_
  refine g_iloadN X0 K (q := 96) d2_95 rfl rfl ?_
  refine g_bipush X0 K (q := 98) (v := (11 : Int32)) d2_96 (by decide) rfl ?_
  refine g_icY X0 K (q := 105) d2_98 (by decide) (by decide) (by decide) ?_
  refine g_iloadN X0 K (q := 106) d2_105 rfl rfl ?_
  refine g_bipush X0 K (q := 108) (v := (12 : Int32)) d2_106 (by decide) rfl ?_
  refine g_icY X0 K (q := 115) d2_108 (by decide) (by decide) (by decide) ?_
  refine g_iloadN X0 K (q := 116) d2_115 rfl rfl ?_
  refine g_bipush X0 K (q := 118) (v := (13 : Int32)) d2_116 (by decide) rfl ?_
  refine g_icN X0 K (q := 121) d2_118 (by decide) rfl ?_
  refine g_gets X0 K (q := 124) (w17 H) e0 ((s3 H).ext Ol0.2) d2_121 rfl ?_
  intro T1 X1 e1
  refine g_aret X1 K rfl rfl rfl d2_124 (by decide) (by decide) ?_
  exact ⟨rfl, N0, e1⟩
set_option maxRecDepth 65536 in
set_option maxHeartbeats 40000000 in
theorem rm1_26 (l : Launch) {Z : State} {a0 : Array Value} (H : Hyp Z a0) (h0 : Heap) (Ol : Old Z Z.heap.size h0) :
    Mt l Z (⟨"com/example/twindeck/twindeck/melds/Meld", "rankAt", "(I)Lcom/example/twindeck/twindeck/cards/Rank;"⟩ : MethodName) prog_28_method_12_code 1 (some (.object "com/example/twindeck/twindeck/cards/Rank")) [] ({ frames := 0, cells := 0, slots := 0, locals := 0 } : Room) #[(.int (14 : Int32))] h0 (fun v h L => (v = some (.ref (ad1 Z a0)) ∧ Fr Z.heap.size L ∧ h = h0)) := by
  refine g_body (plainFor_of_name pn_com_example_twindeck_twindeck_melds_Meld) ?_
  intro p e s m below meth c T0 K X0 e0
  refine g_entry (ef_13 m) ?_
  have N0 : Fr Z.heap.size [] := Fr.nil _
  have Ol0 := Ol
  have Kp0 : Keep h0 h0 [] := Keep.refl h0 _
  refine g_gets X0 K (q := 3) (w5 H) e0 ((s0 H).ext Ol0.2) d1_0 rfl ?_
  intro T1 X1 e1
  refine g_iloadN X1 K (q := 4) d1_3 rfl rfl ?_
  refine g_iconst X1 K (q := 5) (v := (1 : Int32)) d1_4 (by decide) rfl ?_
  refine g_isub X1 K (q := 6) d1_5 (z := (13 : Int32)) (by decide) rfl ?_
  refine g_gets X1 K (q := 9) (w5 H) e1 ((s0 H).ext Ol0.2) d1_6 rfl ?_
  intro T2 X2 e2
  refine g_len X2 K (q := 10) e2 ((v0 H).ext Ol0.2) d1_9 rfl ?_
  refine g_irem X2 K (q := 11) d1_10 (by decide) (z := (0 : Int32)) (by decide) rfl ?_
  refine g_aald X2 K (q := 12) (v := (.ref (ad1 Z a0))) e2 ((v0 H).ext Ol0.2) rfl (by decide) rfl d1_11 rfl ?_
  refine g_aret X2 K rfl rfl rfl d1_12 (by decide) (by decide) ?_
  exact ⟨rfl, N0, e2⟩
set_option maxRecDepth 65536 in
set_option maxHeartbeats 40000000 in
theorem rm2_27 (l : Launch) {Z : State} {a0 : Array Value} (H : Hyp Z a0) (h0 : Heap) (Ol : Old Z Z.heap.size h0) :
    Mt l Z (⟨"com/example/twindeck/twindeck/melds/MeldRankAtPinLaw", "expected", "(I)Lcom/example/twindeck/twindeck/cards/Rank;"⟩ : MethodName) method_2_code 1 (some (.object "com/example/twindeck/twindeck/cards/Rank")) [] ({ frames := 0, cells := 0, slots := 0, locals := 0 } : Room) #[(.int (14 : Int32))] h0 (fun v h L => (v = some (.ref (ad1 Z a0)) ∧ Fr Z.heap.size L ∧ h = h0)) := by
  refine g_body (plainFor_of_name pn_com_example_twindeck_twindeck_melds_MeldRankAtPinLaw) ?_
  intro p e s m below meth c T0 K X0 e0
  refine g_entry (ef_13 m) ?_
  have N0 : Fr Z.heap.size [] := Fr.nil _
  have Ol0 := Ol
  have Kp0 : Keep h0 h0 [] := Keep.refl h0 _
  refine g_iloadN X0 K (q := 1) d2_0 rfl rfl ?_
  refine g_iconst X0 K (q := 2) (v := (1 : Int32)) d2_1 (by decide) rfl ?_
  refine g_icY X0 K (q := 9) d2_2 (by decide) (by decide) (by decide) ?_
  refine g_iloadN X0 K (q := 10) d2_9 rfl rfl ?_
  refine g_iconst X0 K (q := 11) (v := (2 : Int32)) d2_10 (by decide) rfl ?_
  refine g_icY X0 K (q := 18) d2_11 (by decide) (by decide) (by decide) ?_
  refine g_iloadN X0 K (q := 19) d2_18 rfl rfl ?_
  refine g_iconst X0 K (q := 20) (v := (3 : Int32)) d2_19 (by decide) rfl ?_
  refine g_icY X0 K (q := 27) d2_20 (by decide) (by decide) (by decide) ?_
  refine g_iloadN X0 K (q := 28) d2_27 rfl rfl ?_
  refine g_iconst X0 K (q := 29) (v := (4 : Int32)) d2_28 (by decide) rfl ?_
  refine g_icY X0 K (q := 36) d2_29 (by decide) (by decide) (by decide) ?_
  refine g_iloadN X0 K (q := 37) d2_36 rfl rfl ?_
  refine g_iconst X0 K (q := 38) (v := (5 : Int32)) d2_37 (by decide) rfl ?_
  refine g_icY X0 K (q := 45) d2_38 (by decide) (by decide) (by decide) ?_
  refine g_iloadN X0 K (q := 46) d2_45 rfl rfl ?_
  refine g_bipush X0 K (q := 48) (v := (6 : Int32)) d2_46 (by decide) rfl ?_
  refine g_icY X0 K (q := 55) d2_48 (by decide) (by decide) (by decide) ?_
  refine g_iloadN X0 K (q := 56) d2_55 rfl rfl ?_
  refine g_bipush X0 K (q := 58) (v := (7 : Int32)) d2_56 (by decide) rfl ?_
  refine g_icY X0 K (q := 65) d2_58 (by decide) (by decide) (by decide) ?_
  refine g_iloadN X0 K (q := 66) d2_65 rfl rfl ?_
  refine g_bipush X0 K (q := 68) (v := (8 : Int32)) d2_66 (by decide) rfl ?_
  refine g_icY X0 K (q := 75) d2_68 (by decide) (by decide) (by decide) ?_
  refine g_iloadN X0 K (q := 76) d2_75 rfl rfl ?_
  refine g_bipush X0 K (q := 78) (v := (9 : Int32)) d2_76 (by decide) rfl ?_
  refine g_icY X0 K (q := 85) d2_78 (by decide) (by decide) (by decide) ?_
  refine g_iloadN X0 K (q := 86) d2_85 rfl rfl ?_
  refine g_bipush X0 K (q := 88) (v := (10 : Int32)) d2_86 (by decide) rfl ?_
  refine g_icY X0 K (q := 95) d2_88 (by decide) (by decide) (by decide) ?_
  refine g_iloadN X0 K (q := 96) d2_95 rfl rfl ?_
  refine g_bipush X0 K (q := 98) (v := (11 : Int32)) d2_96 (by decide) rfl ?_
  refine g_icY X0 K (q := 105) d2_98 (by decide) (by decide) (by decide) ?_
  refine g_iloadN X0 K (q := 106) d2_105 rfl rfl ?_
  refine g_bipush X0 K (q := 108) (v := (12 : Int32)) d2_106 (by decide) rfl ?_
  refine g_icY X0 K (q := 115) d2_108 (by decide) (by decide) (by decide) ?_
  refine g_iloadN X0 K (q := 116) d2_115 rfl rfl ?_
  refine g_bipush X0 K (q := 118) (v := (13 : Int32)) d2_116 (by decide) rfl ?_
  refine g_icY X0 K (q := 125) d2_118 (by decide) (by decide) (by decide) ?_
  refine g_gets X0 K (q := 128) (w13 H) e0 ((s1 H).ext Ol0.2) d2_125 rfl ?_
  intro T1 X1 e1
  refine g_aret X1 K rfl rfl rfl d2_128 (by decide) (by decide) ?_
  exact ⟨rfl, N0, e1⟩
set_option maxRecDepth 65536 in
set_option maxHeartbeats 40000000 in
theorem rm0 (l : Launch) {Z : State} {a0 : Array Value} (H : Hyp Z a0) (p0 : Int32) (h0 : Heap) (Ol : Old Z Z.heap.size h0) :
    Mt l Z x code maxLocals ret tables_1 room_1 #[(.int p0)] h0 (fun v h L => v = some (.int 1) ∧ Fr Z.heap.size L) := by
  refine g_body (bytes := code) (maxL := maxLocals) (ret := some .boolean) (plainFor_of_name pn_com_example_twindeck_twindeck_melds_MeldRankAtPinLaw) ?_
  intro p e s m below meth c T0 K X0 e0
  refine g_entry (ef_14 m p0) ?_
  have N0 : Fr Z.heap.size [] := Fr.nil _
  have Ol0 : Old Z Z.heap.size h0 := Ol
  refine g_iloadN X0 K (q := 1) at_0 rfl rfl ?_
  refine g_ldc X0 K (q := 3) (w0 H) at_1 rfl ?_
  refine g_iand X0 K (q := 4) at_3 rfl rfl ?_
  refine g_bipush X0 K (q := 6) (v := (14 : Int32)) at_4 (by decide) rfl ?_
  rcases own_sp14 p0 with hs1 | hs1 | hs1 | hs1 | hs1 | hs1 | hs1 | hs1 | hs1 | hs1 | hs1 | hs1 | hs1 | hs1
  · refine g_irem X0 K (q := 7) (z := (0 : Int32)) at_6 (by decide) hs1 rfl ?_
    refine g_iconst X0 K (q := 8) (v := (1 : Int32)) at_7 (by decide) rfl ?_
    refine g_iadd X0 K (q := 9) at_8 (z := (1 : Int32)) (by decide) rfl ?_
    refine g_istoreN X0 K (q := 10) (L' := #[.val (.int p0), .val (.int (1 : Int32)), .unset]) at_9 rfl rfl ?_
    refine g_iloadN X0 K (q := 11) at_10 rfl rfl ?_
    refine g_static X0 K (q := 14) (W := 0) (w1 H) (w2 H) (w3 H) (w4 H) (by decide) (rm1_0 l H h0 Ol0) e0 rfl (argsL := [(.int (1 : Int32))]) (rest := []) (lenOf pd_0 rfl) rfl rfl (Nat.le_of_eq rfl) at_11 (by decide) (by decide) (by decide) (by decide) rfl ?_
    rintro T1 v1 L1 X1 ⟨rfl, N1q, e1⟩
    have N1 := Fr.app N0 N1q
    show Go p e below _ T1 (mkF m 14 #[.val (.int p0), .val (.int (1 : Int32)), .unset] [(.ref (ad1 Z a0))])
    refine g_astoreN X1 K (q := 15) (L' := #[.val (.int p0), .val (.int (1 : Int32)), .val (.ref (ad1 Z a0))]) at_14 rfl rfl rfl ?_
    refine g_aloadN X1 K (q := 16) at_15 rfl rfl rfl ?_
    refine g_iloadN X1 K (q := 17) at_16 rfl rfl ?_
    refine g_static X1 K (q := 20) (W := 1) (w9 H) (w10 H) (w11 H) (w12 H) (by decide) (rm2_1 l H h0 Ol0) e1 rfl (argsL := [(.int (1 : Int32))]) (rest := [(.ref (ad1 Z a0))]) (lenOf pd_0 rfl) rfl rfl (Nat.le_of_eq rfl) at_17 (by decide) (by decide) (by decide) (by decide) rfl ?_
    rintro T2 v2 L2 X2 ⟨rfl, N2q, e2⟩
    have N2 := Fr.app N1 N2q
    show Go p e below _ T2 (mkF m 20 #[.val (.int p0), .val (.int (1 : Int32)), .val (.ref (ad1 Z a0))] [(.ref (ad1 Z a0)), (.ref (ad1 Z a0))])
    refine g_ac X2 K (q := 23) (same := true) at_20 rfl rfl (decide_eq_true rfl) (by decide) (by decide) ?_
    refine g_iconst X2 K (q := 24) (v := (1 : Int32)) at_23 (by decide) rfl ?_
    refine g_goto X2 K (q := 28) at_24 (by decide) (by decide) ?_
    refine g_nret X2 K (by simp) (z' := (1 : Int32)) (by decide) at_28 (by decide) (by decide) ?_
    exact ⟨rfl, N2⟩
  · refine g_irem X0 K (q := 7) (z := (1 : Int32)) at_6 (by decide) hs1 rfl ?_
    refine g_iconst X0 K (q := 8) (v := (1 : Int32)) at_7 (by decide) rfl ?_
    refine g_iadd X0 K (q := 9) at_8 (z := (2 : Int32)) (by decide) rfl ?_
    refine g_istoreN X0 K (q := 10) (L' := #[.val (.int p0), .val (.int (2 : Int32)), .unset]) at_9 rfl rfl ?_
    refine g_iloadN X0 K (q := 11) at_10 rfl rfl ?_
    refine g_static X0 K (q := 14) (W := 0) (w1 H) (w2 H) (w3 H) (w4 H) (by decide) (rm1_2 l H h0 Ol0) e0 rfl (argsL := [(.int (2 : Int32))]) (rest := []) (lenOf pd_0 rfl) rfl rfl (Nat.le_of_eq rfl) at_11 (by decide) (by decide) (by decide) (by decide) rfl ?_
    rintro T3 v3 L3 X3 ⟨rfl, N3q, e3⟩
    have N3 := Fr.app N0 N3q
    show Go p e below _ T3 (mkF m 14 #[.val (.int p0), .val (.int (2 : Int32)), .unset] [(.ref (ad10 Z a0))])
    refine g_astoreN X3 K (q := 15) (L' := #[.val (.int p0), .val (.int (2 : Int32)), .val (.ref (ad10 Z a0))]) at_14 rfl rfl rfl ?_
    refine g_aloadN X3 K (q := 16) at_15 rfl rfl rfl ?_
    refine g_iloadN X3 K (q := 17) at_16 rfl rfl ?_
    refine g_static X3 K (q := 20) (W := 1) (w9 H) (w10 H) (w11 H) (w12 H) (by decide) (rm2_3 l H h0 Ol0) e3 rfl (argsL := [(.int (2 : Int32))]) (rest := [(.ref (ad10 Z a0))]) (lenOf pd_0 rfl) rfl rfl (Nat.le_of_eq rfl) at_17 (by decide) (by decide) (by decide) (by decide) rfl ?_
    rintro T4 v4 L4 X4 ⟨rfl, N4q, e4⟩
    have N4 := Fr.app N3 N4q
    show Go p e below _ T4 (mkF m 20 #[.val (.int p0), .val (.int (2 : Int32)), .val (.ref (ad10 Z a0))] [(.ref (ad10 Z a0)), (.ref (ad10 Z a0))])
    refine g_ac X4 K (q := 23) (same := true) at_20 rfl rfl (decide_eq_true rfl) (by decide) (by decide) ?_
    refine g_iconst X4 K (q := 24) (v := (1 : Int32)) at_23 (by decide) rfl ?_
    refine g_goto X4 K (q := 28) at_24 (by decide) (by decide) ?_
    refine g_nret X4 K (by simp) (z' := (1 : Int32)) (by decide) at_28 (by decide) (by decide) ?_
    exact ⟨rfl, N4⟩
  · refine g_irem X0 K (q := 7) (z := (2 : Int32)) at_6 (by decide) hs1 rfl ?_
    refine g_iconst X0 K (q := 8) (v := (1 : Int32)) at_7 (by decide) rfl ?_
    refine g_iadd X0 K (q := 9) at_8 (z := (3 : Int32)) (by decide) rfl ?_
    refine g_istoreN X0 K (q := 10) (L' := #[.val (.int p0), .val (.int (3 : Int32)), .unset]) at_9 rfl rfl ?_
    refine g_iloadN X0 K (q := 11) at_10 rfl rfl ?_
    refine g_static X0 K (q := 14) (W := 0) (w1 H) (w2 H) (w3 H) (w4 H) (by decide) (rm1_4 l H h0 Ol0) e0 rfl (argsL := [(.int (3 : Int32))]) (rest := []) (lenOf pd_0 rfl) rfl rfl (Nat.le_of_eq rfl) at_11 (by decide) (by decide) (by decide) (by decide) rfl ?_
    rintro T5 v5 L5 X5 ⟨rfl, N5q, e5⟩
    have N5 := Fr.app N0 N5q
    show Go p e below _ T5 (mkF m 14 #[.val (.int p0), .val (.int (3 : Int32)), .unset] [(.ref (ad6 Z a0))])
    refine g_astoreN X5 K (q := 15) (L' := #[.val (.int p0), .val (.int (3 : Int32)), .val (.ref (ad6 Z a0))]) at_14 rfl rfl rfl ?_
    refine g_aloadN X5 K (q := 16) at_15 rfl rfl rfl ?_
    refine g_iloadN X5 K (q := 17) at_16 rfl rfl ?_
    refine g_static X5 K (q := 20) (W := 1) (w9 H) (w10 H) (w11 H) (w12 H) (by decide) (rm2_5 l H h0 Ol0) e5 rfl (argsL := [(.int (3 : Int32))]) (rest := [(.ref (ad6 Z a0))]) (lenOf pd_0 rfl) rfl rfl (Nat.le_of_eq rfl) at_17 (by decide) (by decide) (by decide) (by decide) rfl ?_
    rintro T6 v6 L6 X6 ⟨rfl, N6q, e6⟩
    have N6 := Fr.app N5 N6q
    show Go p e below _ T6 (mkF m 20 #[.val (.int p0), .val (.int (3 : Int32)), .val (.ref (ad6 Z a0))] [(.ref (ad6 Z a0)), (.ref (ad6 Z a0))])
    refine g_ac X6 K (q := 23) (same := true) at_20 rfl rfl (decide_eq_true rfl) (by decide) (by decide) ?_
    refine g_iconst X6 K (q := 24) (v := (1 : Int32)) at_23 (by decide) rfl ?_
    refine g_goto X6 K (q := 28) at_24 (by decide) (by decide) ?_
    refine g_nret X6 K (by simp) (z' := (1 : Int32)) (by decide) at_28 (by decide) (by decide) ?_
    exact ⟨rfl, N6⟩
  · refine g_irem X0 K (q := 7) (z := (3 : Int32)) at_6 (by decide) hs1 rfl ?_
    refine g_iconst X0 K (q := 8) (v := (1 : Int32)) at_7 (by decide) rfl ?_
    refine g_iadd X0 K (q := 9) at_8 (z := (4 : Int32)) (by decide) rfl ?_
    refine g_istoreN X0 K (q := 10) (L' := #[.val (.int p0), .val (.int (4 : Int32)), .unset]) at_9 rfl rfl ?_
    refine g_iloadN X0 K (q := 11) at_10 rfl rfl ?_
    refine g_static X0 K (q := 14) (W := 0) (w1 H) (w2 H) (w3 H) (w4 H) (by decide) (rm1_6 l H h0 Ol0) e0 rfl (argsL := [(.int (4 : Int32))]) (rest := []) (lenOf pd_0 rfl) rfl rfl (Nat.le_of_eq rfl) at_11 (by decide) (by decide) (by decide) (by decide) rfl ?_
    rintro T7 v7 L7 X7 ⟨rfl, N7q, e7⟩
    have N7 := Fr.app N0 N7q
    show Go p e below _ T7 (mkF m 14 #[.val (.int p0), .val (.int (4 : Int32)), .unset] [(.ref (ad2 Z a0))])
    refine g_astoreN X7 K (q := 15) (L' := #[.val (.int p0), .val (.int (4 : Int32)), .val (.ref (ad2 Z a0))]) at_14 rfl rfl rfl ?_
    refine g_aloadN X7 K (q := 16) at_15 rfl rfl rfl ?_
    refine g_iloadN X7 K (q := 17) at_16 rfl rfl ?_
    refine g_static X7 K (q := 20) (W := 1) (w9 H) (w10 H) (w11 H) (w12 H) (by decide) (rm2_7 l H h0 Ol0) e7 rfl (argsL := [(.int (4 : Int32))]) (rest := [(.ref (ad2 Z a0))]) (lenOf pd_0 rfl) rfl rfl (Nat.le_of_eq rfl) at_17 (by decide) (by decide) (by decide) (by decide) rfl ?_
    rintro T8 v8 L8 X8 ⟨rfl, N8q, e8⟩
    have N8 := Fr.app N7 N8q
    show Go p e below _ T8 (mkF m 20 #[.val (.int p0), .val (.int (4 : Int32)), .val (.ref (ad2 Z a0))] [(.ref (ad2 Z a0)), (.ref (ad2 Z a0))])
    refine g_ac X8 K (q := 23) (same := true) at_20 rfl rfl (decide_eq_true rfl) (by decide) (by decide) ?_
    refine g_iconst X8 K (q := 24) (v := (1 : Int32)) at_23 (by decide) rfl ?_
    refine g_goto X8 K (q := 28) at_24 (by decide) (by decide) ?_
    refine g_nret X8 K (by simp) (z' := (1 : Int32)) (by decide) at_28 (by decide) (by decide) ?_
    exact ⟨rfl, N8⟩
  · refine g_irem X0 K (q := 7) (z := (4 : Int32)) at_6 (by decide) hs1 rfl ?_
    refine g_iconst X0 K (q := 8) (v := (1 : Int32)) at_7 (by decide) rfl ?_
    refine g_iadd X0 K (q := 9) at_8 (z := (5 : Int32)) (by decide) rfl ?_
    refine g_istoreN X0 K (q := 10) (L' := #[.val (.int p0), .val (.int (5 : Int32)), .unset]) at_9 rfl rfl ?_
    refine g_iloadN X0 K (q := 11) at_10 rfl rfl ?_
    refine g_static X0 K (q := 14) (W := 0) (w1 H) (w2 H) (w3 H) (w4 H) (by decide) (rm1_8 l H h0 Ol0) e0 rfl (argsL := [(.int (5 : Int32))]) (rest := []) (lenOf pd_0 rfl) rfl rfl (Nat.le_of_eq rfl) at_11 (by decide) (by decide) (by decide) (by decide) rfl ?_
    rintro T9 v9 L9 X9 ⟨rfl, N9q, e9⟩
    have N9 := Fr.app N0 N9q
    show Go p e below _ T9 (mkF m 14 #[.val (.int p0), .val (.int (5 : Int32)), .unset] [(.ref (ad4 Z a0))])
    refine g_astoreN X9 K (q := 15) (L' := #[.val (.int p0), .val (.int (5 : Int32)), .val (.ref (ad4 Z a0))]) at_14 rfl rfl rfl ?_
    refine g_aloadN X9 K (q := 16) at_15 rfl rfl rfl ?_
    refine g_iloadN X9 K (q := 17) at_16 rfl rfl ?_
    refine g_static X9 K (q := 20) (W := 1) (w9 H) (w10 H) (w11 H) (w12 H) (by decide) (rm2_9 l H h0 Ol0) e9 rfl (argsL := [(.int (5 : Int32))]) (rest := [(.ref (ad4 Z a0))]) (lenOf pd_0 rfl) rfl rfl (Nat.le_of_eq rfl) at_17 (by decide) (by decide) (by decide) (by decide) rfl ?_
    rintro T10 v10 L10 X10 ⟨rfl, N10q, e10⟩
    have N10 := Fr.app N9 N10q
    show Go p e below _ T10 (mkF m 20 #[.val (.int p0), .val (.int (5 : Int32)), .val (.ref (ad4 Z a0))] [(.ref (ad4 Z a0)), (.ref (ad4 Z a0))])
    refine g_ac X10 K (q := 23) (same := true) at_20 rfl rfl (decide_eq_true rfl) (by decide) (by decide) ?_
    refine g_iconst X10 K (q := 24) (v := (1 : Int32)) at_23 (by decide) rfl ?_
    refine g_goto X10 K (q := 28) at_24 (by decide) (by decide) ?_
    refine g_nret X10 K (by simp) (z' := (1 : Int32)) (by decide) at_28 (by decide) (by decide) ?_
    exact ⟨rfl, N10⟩
  · refine g_irem X0 K (q := 7) (z := (5 : Int32)) at_6 (by decide) hs1 rfl ?_
    refine g_iconst X0 K (q := 8) (v := (1 : Int32)) at_7 (by decide) rfl ?_
    refine g_iadd X0 K (q := 9) at_8 (z := (6 : Int32)) (by decide) rfl ?_
    refine g_istoreN X0 K (q := 10) (L' := #[.val (.int p0), .val (.int (6 : Int32)), .unset]) at_9 rfl rfl ?_
    refine g_iloadN X0 K (q := 11) at_10 rfl rfl ?_
    refine g_static X0 K (q := 14) (W := 0) (w1 H) (w2 H) (w3 H) (w4 H) (by decide) (rm1_10 l H h0 Ol0) e0 rfl (argsL := [(.int (6 : Int32))]) (rest := []) (lenOf pd_0 rfl) rfl rfl (Nat.le_of_eq rfl) at_11 (by decide) (by decide) (by decide) (by decide) rfl ?_
    rintro T11 v11 L11 X11 ⟨rfl, N11q, e11⟩
    have N11 := Fr.app N0 N11q
    show Go p e below _ T11 (mkF m 14 #[.val (.int p0), .val (.int (6 : Int32)), .unset] [(.ref (ad12 Z a0))])
    refine g_astoreN X11 K (q := 15) (L' := #[.val (.int p0), .val (.int (6 : Int32)), .val (.ref (ad12 Z a0))]) at_14 rfl rfl rfl ?_
    refine g_aloadN X11 K (q := 16) at_15 rfl rfl rfl ?_
    refine g_iloadN X11 K (q := 17) at_16 rfl rfl ?_
    refine g_static X11 K (q := 20) (W := 1) (w9 H) (w10 H) (w11 H) (w12 H) (by decide) (rm2_11 l H h0 Ol0) e11 rfl (argsL := [(.int (6 : Int32))]) (rest := [(.ref (ad12 Z a0))]) (lenOf pd_0 rfl) rfl rfl (Nat.le_of_eq rfl) at_17 (by decide) (by decide) (by decide) (by decide) rfl ?_
    rintro T12 v12 L12 X12 ⟨rfl, N12q, e12⟩
    have N12 := Fr.app N11 N12q
    show Go p e below _ T12 (mkF m 20 #[.val (.int p0), .val (.int (6 : Int32)), .val (.ref (ad12 Z a0))] [(.ref (ad12 Z a0)), (.ref (ad12 Z a0))])
    refine g_ac X12 K (q := 23) (same := true) at_20 rfl rfl (decide_eq_true rfl) (by decide) (by decide) ?_
    refine g_iconst X12 K (q := 24) (v := (1 : Int32)) at_23 (by decide) rfl ?_
    refine g_goto X12 K (q := 28) at_24 (by decide) (by decide) ?_
    refine g_nret X12 K (by simp) (z' := (1 : Int32)) (by decide) at_28 (by decide) (by decide) ?_
    exact ⟨rfl, N12⟩
  · refine g_irem X0 K (q := 7) (z := (6 : Int32)) at_6 (by decide) hs1 rfl ?_
    refine g_iconst X0 K (q := 8) (v := (1 : Int32)) at_7 (by decide) rfl ?_
    refine g_iadd X0 K (q := 9) at_8 (z := (7 : Int32)) (by decide) rfl ?_
    refine g_istoreN X0 K (q := 10) (L' := #[.val (.int p0), .val (.int (7 : Int32)), .unset]) at_9 rfl rfl ?_
    refine g_iloadN X0 K (q := 11) at_10 rfl rfl ?_
    refine g_static X0 K (q := 14) (W := 0) (w1 H) (w2 H) (w3 H) (w4 H) (by decide) (rm1_12 l H h0 Ol0) e0 rfl (argsL := [(.int (7 : Int32))]) (rest := []) (lenOf pd_0 rfl) rfl rfl (Nat.le_of_eq rfl) at_11 (by decide) (by decide) (by decide) (by decide) rfl ?_
    rintro T13 v13 L13 X13 ⟨rfl, N13q, e13⟩
    have N13 := Fr.app N0 N13q
    show Go p e below _ T13 (mkF m 14 #[.val (.int p0), .val (.int (7 : Int32)), .unset] [(.ref (ad13 Z a0))])
    refine g_astoreN X13 K (q := 15) (L' := #[.val (.int p0), .val (.int (7 : Int32)), .val (.ref (ad13 Z a0))]) at_14 rfl rfl rfl ?_
    refine g_aloadN X13 K (q := 16) at_15 rfl rfl rfl ?_
    refine g_iloadN X13 K (q := 17) at_16 rfl rfl ?_
    refine g_static X13 K (q := 20) (W := 1) (w9 H) (w10 H) (w11 H) (w12 H) (by decide) (rm2_13 l H h0 Ol0) e13 rfl (argsL := [(.int (7 : Int32))]) (rest := [(.ref (ad13 Z a0))]) (lenOf pd_0 rfl) rfl rfl (Nat.le_of_eq rfl) at_17 (by decide) (by decide) (by decide) (by decide) rfl ?_
    rintro T14 v14 L14 X14 ⟨rfl, N14q, e14⟩
    have N14 := Fr.app N13 N14q
    show Go p e below _ T14 (mkF m 20 #[.val (.int p0), .val (.int (7 : Int32)), .val (.ref (ad13 Z a0))] [(.ref (ad13 Z a0)), (.ref (ad13 Z a0))])
    refine g_ac X14 K (q := 23) (same := true) at_20 rfl rfl (decide_eq_true rfl) (by decide) (by decide) ?_
    refine g_iconst X14 K (q := 24) (v := (1 : Int32)) at_23 (by decide) rfl ?_
    refine g_goto X14 K (q := 28) at_24 (by decide) (by decide) ?_
    refine g_nret X14 K (by simp) (z' := (1 : Int32)) (by decide) at_28 (by decide) (by decide) ?_
    exact ⟨rfl, N14⟩
  · refine g_irem X0 K (q := 7) (z := (7 : Int32)) at_6 (by decide) hs1 rfl ?_
    refine g_iconst X0 K (q := 8) (v := (1 : Int32)) at_7 (by decide) rfl ?_
    refine g_iadd X0 K (q := 9) at_8 (z := (8 : Int32)) (by decide) rfl ?_
    refine g_istoreN X0 K (q := 10) (L' := #[.val (.int p0), .val (.int (8 : Int32)), .unset]) at_9 rfl rfl ?_
    refine g_iloadN X0 K (q := 11) at_10 rfl rfl ?_
    refine g_static X0 K (q := 14) (W := 0) (w1 H) (w2 H) (w3 H) (w4 H) (by decide) (rm1_14 l H h0 Ol0) e0 rfl (argsL := [(.int (8 : Int32))]) (rest := []) (lenOf pd_0 rfl) rfl rfl (Nat.le_of_eq rfl) at_11 (by decide) (by decide) (by decide) (by decide) rfl ?_
    rintro T15 v15 L15 X15 ⟨rfl, N15q, e15⟩
    have N15 := Fr.app N0 N15q
    show Go p e below _ T15 (mkF m 14 #[.val (.int p0), .val (.int (8 : Int32)), .unset] [(.ref (ad5 Z a0))])
    refine g_astoreN X15 K (q := 15) (L' := #[.val (.int p0), .val (.int (8 : Int32)), .val (.ref (ad5 Z a0))]) at_14 rfl rfl rfl ?_
    refine g_aloadN X15 K (q := 16) at_15 rfl rfl rfl ?_
    refine g_iloadN X15 K (q := 17) at_16 rfl rfl ?_
    refine g_static X15 K (q := 20) (W := 1) (w9 H) (w10 H) (w11 H) (w12 H) (by decide) (rm2_15 l H h0 Ol0) e15 rfl (argsL := [(.int (8 : Int32))]) (rest := [(.ref (ad5 Z a0))]) (lenOf pd_0 rfl) rfl rfl (Nat.le_of_eq rfl) at_17 (by decide) (by decide) (by decide) (by decide) rfl ?_
    rintro T16 v16 L16 X16 ⟨rfl, N16q, e16⟩
    have N16 := Fr.app N15 N16q
    show Go p e below _ T16 (mkF m 20 #[.val (.int p0), .val (.int (8 : Int32)), .val (.ref (ad5 Z a0))] [(.ref (ad5 Z a0)), (.ref (ad5 Z a0))])
    refine g_ac X16 K (q := 23) (same := true) at_20 rfl rfl (decide_eq_true rfl) (by decide) (by decide) ?_
    refine g_iconst X16 K (q := 24) (v := (1 : Int32)) at_23 (by decide) rfl ?_
    refine g_goto X16 K (q := 28) at_24 (by decide) (by decide) ?_
    refine g_nret X16 K (by simp) (z' := (1 : Int32)) (by decide) at_28 (by decide) (by decide) ?_
    exact ⟨rfl, N16⟩
  · refine g_irem X0 K (q := 7) (z := (8 : Int32)) at_6 (by decide) hs1 rfl ?_
    refine g_iconst X0 K (q := 8) (v := (1 : Int32)) at_7 (by decide) rfl ?_
    refine g_iadd X0 K (q := 9) at_8 (z := (9 : Int32)) (by decide) rfl ?_
    refine g_istoreN X0 K (q := 10) (L' := #[.val (.int p0), .val (.int (9 : Int32)), .unset]) at_9 rfl rfl ?_
    refine g_iloadN X0 K (q := 11) at_10 rfl rfl ?_
    refine g_static X0 K (q := 14) (W := 0) (w1 H) (w2 H) (w3 H) (w4 H) (by decide) (rm1_16 l H h0 Ol0) e0 rfl (argsL := [(.int (9 : Int32))]) (rest := []) (lenOf pd_0 rfl) rfl rfl (Nat.le_of_eq rfl) at_11 (by decide) (by decide) (by decide) (by decide) rfl ?_
    rintro T17 v17 L17 X17 ⟨rfl, N17q, e17⟩
    have N17 := Fr.app N0 N17q
    show Go p e below _ T17 (mkF m 14 #[.val (.int p0), .val (.int (9 : Int32)), .unset] [(.ref (ad9 Z a0))])
    refine g_astoreN X17 K (q := 15) (L' := #[.val (.int p0), .val (.int (9 : Int32)), .val (.ref (ad9 Z a0))]) at_14 rfl rfl rfl ?_
    refine g_aloadN X17 K (q := 16) at_15 rfl rfl rfl ?_
    refine g_iloadN X17 K (q := 17) at_16 rfl rfl ?_
    refine g_static X17 K (q := 20) (W := 1) (w9 H) (w10 H) (w11 H) (w12 H) (by decide) (rm2_17 l H h0 Ol0) e17 rfl (argsL := [(.int (9 : Int32))]) (rest := [(.ref (ad9 Z a0))]) (lenOf pd_0 rfl) rfl rfl (Nat.le_of_eq rfl) at_17 (by decide) (by decide) (by decide) (by decide) rfl ?_
    rintro T18 v18 L18 X18 ⟨rfl, N18q, e18⟩
    have N18 := Fr.app N17 N18q
    show Go p e below _ T18 (mkF m 20 #[.val (.int p0), .val (.int (9 : Int32)), .val (.ref (ad9 Z a0))] [(.ref (ad9 Z a0)), (.ref (ad9 Z a0))])
    refine g_ac X18 K (q := 23) (same := true) at_20 rfl rfl (decide_eq_true rfl) (by decide) (by decide) ?_
    refine g_iconst X18 K (q := 24) (v := (1 : Int32)) at_23 (by decide) rfl ?_
    refine g_goto X18 K (q := 28) at_24 (by decide) (by decide) ?_
    refine g_nret X18 K (by simp) (z' := (1 : Int32)) (by decide) at_28 (by decide) (by decide) ?_
    exact ⟨rfl, N18⟩
  · refine g_irem X0 K (q := 7) (z := (9 : Int32)) at_6 (by decide) hs1 rfl ?_
    refine g_iconst X0 K (q := 8) (v := (1 : Int32)) at_7 (by decide) rfl ?_
    refine g_iadd X0 K (q := 9) at_8 (z := (10 : Int32)) (by decide) rfl ?_
    refine g_istoreN X0 K (q := 10) (L' := #[.val (.int p0), .val (.int (10 : Int32)), .unset]) at_9 rfl rfl ?_
    refine g_iloadN X0 K (q := 11) at_10 rfl rfl ?_
    refine g_static X0 K (q := 14) (W := 0) (w1 H) (w2 H) (w3 H) (w4 H) (by decide) (rm1_18 l H h0 Ol0) e0 rfl (argsL := [(.int (10 : Int32))]) (rest := []) (lenOf pd_0 rfl) rfl rfl (Nat.le_of_eq rfl) at_11 (by decide) (by decide) (by decide) (by decide) rfl ?_
    rintro T19 v19 L19 X19 ⟨rfl, N19q, e19⟩
    have N19 := Fr.app N0 N19q
    show Go p e below _ T19 (mkF m 14 #[.val (.int p0), .val (.int (10 : Int32)), .unset] [(.ref (ad11 Z a0))])
    refine g_astoreN X19 K (q := 15) (L' := #[.val (.int p0), .val (.int (10 : Int32)), .val (.ref (ad11 Z a0))]) at_14 rfl rfl rfl ?_
    refine g_aloadN X19 K (q := 16) at_15 rfl rfl rfl ?_
    refine g_iloadN X19 K (q := 17) at_16 rfl rfl ?_
    refine g_static X19 K (q := 20) (W := 1) (w9 H) (w10 H) (w11 H) (w12 H) (by decide) (rm2_19 l H h0 Ol0) e19 rfl (argsL := [(.int (10 : Int32))]) (rest := [(.ref (ad11 Z a0))]) (lenOf pd_0 rfl) rfl rfl (Nat.le_of_eq rfl) at_17 (by decide) (by decide) (by decide) (by decide) rfl ?_
    rintro T20 v20 L20 X20 ⟨rfl, N20q, e20⟩
    have N20 := Fr.app N19 N20q
    show Go p e below _ T20 (mkF m 20 #[.val (.int p0), .val (.int (10 : Int32)), .val (.ref (ad11 Z a0))] [(.ref (ad11 Z a0)), (.ref (ad11 Z a0))])
    refine g_ac X20 K (q := 23) (same := true) at_20 rfl rfl (decide_eq_true rfl) (by decide) (by decide) ?_
    refine g_iconst X20 K (q := 24) (v := (1 : Int32)) at_23 (by decide) rfl ?_
    refine g_goto X20 K (q := 28) at_24 (by decide) (by decide) ?_
    refine g_nret X20 K (by simp) (z' := (1 : Int32)) (by decide) at_28 (by decide) (by decide) ?_
    exact ⟨rfl, N20⟩
  · refine g_irem X0 K (q := 7) (z := (10 : Int32)) at_6 (by decide) hs1 rfl ?_
    refine g_iconst X0 K (q := 8) (v := (1 : Int32)) at_7 (by decide) rfl ?_
    refine g_iadd X0 K (q := 9) at_8 (z := (11 : Int32)) (by decide) rfl ?_
    refine g_istoreN X0 K (q := 10) (L' := #[.val (.int p0), .val (.int (11 : Int32)), .unset]) at_9 rfl rfl ?_
    refine g_iloadN X0 K (q := 11) at_10 rfl rfl ?_
    refine g_static X0 K (q := 14) (W := 0) (w1 H) (w2 H) (w3 H) (w4 H) (by decide) (rm1_20 l H h0 Ol0) e0 rfl (argsL := [(.int (11 : Int32))]) (rest := []) (lenOf pd_0 rfl) rfl rfl (Nat.le_of_eq rfl) at_11 (by decide) (by decide) (by decide) (by decide) rfl ?_
    rintro T21 v21 L21 X21 ⟨rfl, N21q, e21⟩
    have N21 := Fr.app N0 N21q
    show Go p e below _ T21 (mkF m 14 #[.val (.int p0), .val (.int (11 : Int32)), .unset] [(.ref (ad8 Z a0))])
    refine g_astoreN X21 K (q := 15) (L' := #[.val (.int p0), .val (.int (11 : Int32)), .val (.ref (ad8 Z a0))]) at_14 rfl rfl rfl ?_
    refine g_aloadN X21 K (q := 16) at_15 rfl rfl rfl ?_
    refine g_iloadN X21 K (q := 17) at_16 rfl rfl ?_
    refine g_static X21 K (q := 20) (W := 1) (w9 H) (w10 H) (w11 H) (w12 H) (by decide) (rm2_21 l H h0 Ol0) e21 rfl (argsL := [(.int (11 : Int32))]) (rest := [(.ref (ad8 Z a0))]) (lenOf pd_0 rfl) rfl rfl (Nat.le_of_eq rfl) at_17 (by decide) (by decide) (by decide) (by decide) rfl ?_
    rintro T22 v22 L22 X22 ⟨rfl, N22q, e22⟩
    have N22 := Fr.app N21 N22q
    show Go p e below _ T22 (mkF m 20 #[.val (.int p0), .val (.int (11 : Int32)), .val (.ref (ad8 Z a0))] [(.ref (ad8 Z a0)), (.ref (ad8 Z a0))])
    refine g_ac X22 K (q := 23) (same := true) at_20 rfl rfl (decide_eq_true rfl) (by decide) (by decide) ?_
    refine g_iconst X22 K (q := 24) (v := (1 : Int32)) at_23 (by decide) rfl ?_
    refine g_goto X22 K (q := 28) at_24 (by decide) (by decide) ?_
    refine g_nret X22 K (by simp) (z' := (1 : Int32)) (by decide) at_28 (by decide) (by decide) ?_
    exact ⟨rfl, N22⟩
  · refine g_irem X0 K (q := 7) (z := (11 : Int32)) at_6 (by decide) hs1 rfl ?_
    refine g_iconst X0 K (q := 8) (v := (1 : Int32)) at_7 (by decide) rfl ?_
    refine g_iadd X0 K (q := 9) at_8 (z := (12 : Int32)) (by decide) rfl ?_
    refine g_istoreN X0 K (q := 10) (L' := #[.val (.int p0), .val (.int (12 : Int32)), .unset]) at_9 rfl rfl ?_
    refine g_iloadN X0 K (q := 11) at_10 rfl rfl ?_
    refine g_static X0 K (q := 14) (W := 0) (w1 H) (w2 H) (w3 H) (w4 H) (by decide) (rm1_22 l H h0 Ol0) e0 rfl (argsL := [(.int (12 : Int32))]) (rest := []) (lenOf pd_0 rfl) rfl rfl (Nat.le_of_eq rfl) at_11 (by decide) (by decide) (by decide) (by decide) rfl ?_
    rintro T23 v23 L23 X23 ⟨rfl, N23q, e23⟩
    have N23 := Fr.app N0 N23q
    show Go p e below _ T23 (mkF m 14 #[.val (.int p0), .val (.int (12 : Int32)), .unset] [(.ref (ad7 Z a0))])
    refine g_astoreN X23 K (q := 15) (L' := #[.val (.int p0), .val (.int (12 : Int32)), .val (.ref (ad7 Z a0))]) at_14 rfl rfl rfl ?_
    refine g_aloadN X23 K (q := 16) at_15 rfl rfl rfl ?_
    refine g_iloadN X23 K (q := 17) at_16 rfl rfl ?_
    refine g_static X23 K (q := 20) (W := 1) (w9 H) (w10 H) (w11 H) (w12 H) (by decide) (rm2_23 l H h0 Ol0) e23 rfl (argsL := [(.int (12 : Int32))]) (rest := [(.ref (ad7 Z a0))]) (lenOf pd_0 rfl) rfl rfl (Nat.le_of_eq rfl) at_17 (by decide) (by decide) (by decide) (by decide) rfl ?_
    rintro T24 v24 L24 X24 ⟨rfl, N24q, e24⟩
    have N24 := Fr.app N23 N24q
    show Go p e below _ T24 (mkF m 20 #[.val (.int p0), .val (.int (12 : Int32)), .val (.ref (ad7 Z a0))] [(.ref (ad7 Z a0)), (.ref (ad7 Z a0))])
    refine g_ac X24 K (q := 23) (same := true) at_20 rfl rfl (decide_eq_true rfl) (by decide) (by decide) ?_
    refine g_iconst X24 K (q := 24) (v := (1 : Int32)) at_23 (by decide) rfl ?_
    refine g_goto X24 K (q := 28) at_24 (by decide) (by decide) ?_
    refine g_nret X24 K (by simp) (z' := (1 : Int32)) (by decide) at_28 (by decide) (by decide) ?_
    exact ⟨rfl, N24⟩
  · refine g_irem X0 K (q := 7) (z := (12 : Int32)) at_6 (by decide) hs1 rfl ?_
    refine g_iconst X0 K (q := 8) (v := (1 : Int32)) at_7 (by decide) rfl ?_
    refine g_iadd X0 K (q := 9) at_8 (z := (13 : Int32)) (by decide) rfl ?_
    refine g_istoreN X0 K (q := 10) (L' := #[.val (.int p0), .val (.int (13 : Int32)), .unset]) at_9 rfl rfl ?_
    refine g_iloadN X0 K (q := 11) at_10 rfl rfl ?_
    refine g_static X0 K (q := 14) (W := 0) (w1 H) (w2 H) (w3 H) (w4 H) (by decide) (rm1_24 l H h0 Ol0) e0 rfl (argsL := [(.int (13 : Int32))]) (rest := []) (lenOf pd_0 rfl) rfl rfl (Nat.le_of_eq rfl) at_11 (by decide) (by decide) (by decide) (by decide) rfl ?_
    rintro T25 v25 L25 X25 ⟨rfl, N25q, e25⟩
    have N25 := Fr.app N0 N25q
    show Go p e below _ T25 (mkF m 14 #[.val (.int p0), .val (.int (13 : Int32)), .unset] [(.ref (ad3 Z a0))])
    refine g_astoreN X25 K (q := 15) (L' := #[.val (.int p0), .val (.int (13 : Int32)), .val (.ref (ad3 Z a0))]) at_14 rfl rfl rfl ?_
    refine g_aloadN X25 K (q := 16) at_15 rfl rfl rfl ?_
    refine g_iloadN X25 K (q := 17) at_16 rfl rfl ?_
    refine g_static X25 K (q := 20) (W := 1) (w9 H) (w10 H) (w11 H) (w12 H) (by decide) (rm2_25 l H h0 Ol0) e25 rfl (argsL := [(.int (13 : Int32))]) (rest := [(.ref (ad3 Z a0))]) (lenOf pd_0 rfl) rfl rfl (Nat.le_of_eq rfl) at_17 (by decide) (by decide) (by decide) (by decide) rfl ?_
    rintro T26 v26 L26 X26 ⟨rfl, N26q, e26⟩
    have N26 := Fr.app N25 N26q
    show Go p e below _ T26 (mkF m 20 #[.val (.int p0), .val (.int (13 : Int32)), .val (.ref (ad3 Z a0))] [(.ref (ad3 Z a0)), (.ref (ad3 Z a0))])
    refine g_ac X26 K (q := 23) (same := true) at_20 rfl rfl (decide_eq_true rfl) (by decide) (by decide) ?_
    refine g_iconst X26 K (q := 24) (v := (1 : Int32)) at_23 (by decide) rfl ?_
    refine g_goto X26 K (q := 28) at_24 (by decide) (by decide) ?_
    refine g_nret X26 K (by simp) (z' := (1 : Int32)) (by decide) at_28 (by decide) (by decide) ?_
    exact ⟨rfl, N26⟩
  · refine g_irem X0 K (q := 7) (z := (13 : Int32)) at_6 (by decide) hs1 rfl ?_
    refine g_iconst X0 K (q := 8) (v := (1 : Int32)) at_7 (by decide) rfl ?_
    refine g_iadd X0 K (q := 9) at_8 (z := (14 : Int32)) (by decide) rfl ?_
    refine g_istoreN X0 K (q := 10) (L' := #[.val (.int p0), .val (.int (14 : Int32)), .unset]) at_9 rfl rfl ?_
    refine g_iloadN X0 K (q := 11) at_10 rfl rfl ?_
    refine g_static X0 K (q := 14) (W := 0) (w1 H) (w2 H) (w3 H) (w4 H) (by decide) (rm1_26 l H h0 Ol0) e0 rfl (argsL := [(.int (14 : Int32))]) (rest := []) (lenOf pd_0 rfl) rfl rfl (Nat.le_of_eq rfl) at_11 (by decide) (by decide) (by decide) (by decide) rfl ?_
    rintro T27 v27 L27 X27 ⟨rfl, N27q, e27⟩
    have N27 := Fr.app N0 N27q
    show Go p e below _ T27 (mkF m 14 #[.val (.int p0), .val (.int (14 : Int32)), .unset] [(.ref (ad1 Z a0))])
    refine g_astoreN X27 K (q := 15) (L' := #[.val (.int p0), .val (.int (14 : Int32)), .val (.ref (ad1 Z a0))]) at_14 rfl rfl rfl ?_
    refine g_aloadN X27 K (q := 16) at_15 rfl rfl rfl ?_
    refine g_iloadN X27 K (q := 17) at_16 rfl rfl ?_
    refine g_static X27 K (q := 20) (W := 1) (w9 H) (w10 H) (w11 H) (w12 H) (by decide) (rm2_27 l H h0 Ol0) e27 rfl (argsL := [(.int (14 : Int32))]) (rest := [(.ref (ad1 Z a0))]) (lenOf pd_0 rfl) rfl rfl (Nat.le_of_eq rfl) at_17 (by decide) (by decide) (by decide) (by decide) rfl ?_
    rintro T28 v28 L28 X28 ⟨rfl, N28q, e28⟩
    have N28 := Fr.app N27 N28q
    show Go p e below _ T28 (mkF m 20 #[.val (.int p0), .val (.int (14 : Int32)), .val (.ref (ad1 Z a0))] [(.ref (ad1 Z a0)), (.ref (ad1 Z a0))])
    refine g_ac X28 K (q := 23) (same := true) at_20 rfl rfl (decide_eq_true rfl) (by decide) (by decide) ?_
    refine g_iconst X28 K (q := 24) (v := (1 : Int32)) at_23 (by decide) rfl ?_
    refine g_goto X28 K (q := 28) at_24 (by decide) (by decide) ?_
    refine g_nret X28 K (by simp) (z' := (1 : Int32)) (by decide) at_28 (by decide) (by decide) ?_
    exact ⟨rfl, N28⟩
set_option maxRecDepth 65536 in
set_option maxHeartbeats 40000000 in
theorem comes_1 {Post : Tables → Env → Array Value → State → Outcome → State → Prop} (hpost : ∀ tb e args s v u, (limb_1_1.after args s (.returned v) u = true ∧ limb_1_2.after args s (.returned v) u = true ∧ True) → FrameEnd s (.returned v) u (Jvm.fieldLocs frame_1_writes args s ++ Jvm.arrayLocs frame_1_arrays args s ++ Jvm.staticLocs frame_1_statics s) 0 0 → Post tb e args s (.returned v) u) :
    ArmFor flags0 classFile x code maxLocals ret World_1 tables_1 room_1 Calls_1 rest_1 Pre_1 Post := by
  intro l hfl _ _ p e ha hc hk s m args below hf hA hF happ hP
  obtain ⟨hcalls, hrest, hpre⟩ := hP
  obtain ⟨-, -, -, hnamed, -, -, -, hat⟩ := (Spec.applies_iff hf).mp happ
  obtain ⟨hg, hn⟩ := and_e (Cond.before_iff.mp (show (Jvm.Cond.and given_1 narrow_1).before args s = true from hpre))
  obtain ⟨g0, hg0⟩ := and_e hg
  have g1 := hg0
  obtain ⟨u0, rfl⟩ : ∃ u0 : Value, args = #[u0] := by
    have hs : args.size = 1 := by simpa [Cond.value, given_1] using g0
    obtain ⟨L⟩ := args
    match L, hs with
    | [u0], _ => exact ⟨u0, rfl⟩
  have hw := fun d (hd : d ∈ tables_1) => atoms_spec (ws := Jvm.Cond.code x code maxLocals ret :: tables_1) hat d (List.mem_cons_of_mem _ hd)
  have hfit : Fit s := fun {y c} hc i hi => by
    obtain ⟨ha, rfl⟩ := Array.getElem?_eq_some_iff.mp hc
    have q := List.all_eq_true.mp ((Array.all_eq_true_iff_forall_mem.mp hF) _ (Array.getElem_mem ha)) i (List.mem_range.mpr hi)
    simpa [Array.getElem?_eq_getElem hi] using q
  obtain ⟨i0, ei0⟩ := is_v g1
  obtain rfl : u0 = (.int i0) := Option.some.inj ei0
  obtain ⟨n, o, h1, h2, h3, _, L, rfl, ⟨rfl, N⟩, hq⟩ := rm0 l (Z := s) ⟨hw, hn, hfit⟩ i0 s.heap (Old.start s) p e ha hc hk s m _ below hf ((Spec.applies_iff_loose hf).mp happ).1 ⟨rfl, State.Warmed39.refl s, rfl⟩ trivial
  refine ⟨n, _, h1, h2, h3, hpost _ _ _ _ _ _ ⟨Cond.after_iff.mpr rfl, Cond.after_iff.mpr (eq_i res_at (Term.int_eval (1)) rfl), trivial⟩ ⟨hq.1, hq.2.1, (hq.2.2.sift fun y hy => Or.inr (N y hy)).mono (by decide) (by decide)⟩⟩
theorem main_1_1 : Claimed_1_1 := comes_1 fun _ _ _ _ _ _ h hF => ⟨h.1, hF⟩
theorem main_1_2 : Claimed_1_2 := comes_1 fun _ _ _ _ _ _ h hF => ⟨h.2.1, hF⟩
end Jvm.Pilot.@@N@@
namespace Jvm.Pilot.@@N@@
open Jvm Jvm.ClassFile Sem Op Lib Jvm.Free Jvm.Stand Jvm.Pilot.@@N@@.Jvm.D
/-! MADE BY PROGRAM (witnessworld.py) out of the Statement's table words and the real class files: 14 classes; the members and pool entries that the words name. The judged class is class 1, her method 2. -/
namespace start1
open Jvm.ClassFile
def u (s : String) : CpInfo := .utf8 (stringToUtf16 s)
/-- a pool by its gaps: so many unusable entries, then the entry; so many at the end -/
def gap : Nat → List CpInfo → List CpInfo
  | 0, r => r
  | n + 1, r => .unusable :: gap n r
def poolList (es : List (Nat × CpInfo)) (last : Nat) : List CpInfo := es.foldr (fun e r => gap e.1 (e.2 :: r)) (gap last [])
def pool (es : List (Nat × CpInfo)) (last : Nat) : Array CpInfo := ⟨poolList es last⟩
def fileOf (pool : Array CpInfo) (this : Nat) (attrs : Array Attribute := #[]) (ms : Array MethodInfo := #[]) (fl : Nat := 33) (sup : Nat := 0) (ifs : Array Nat := #[]) (fds : Array FieldInfo := #[]) : ClassFile where
  minorVersion := 0
  majorVersion := 65
  constantPool := pool
  accessFlags := fl
  thisClass := this
  superClass := sup
  interfaces := ifs
  fields := fds
  methods := ms
  attributes := attrs
def plain (name : String) (sup : Option ClassId) : Class where
  name := name
  kind := .ordinary
  loader := none
  accessFlags := 33
  super := sup
  interfaces := #[]
  cf := none
  fields := #[]
  methods := #[]
  instanceTypes := #[]
  staticTypes := #[]
  resolved := #[]
  callSites := []
  init := .initialized
  statics := none
  mirror := none

def pool0 : Array CpInfo := pool [(5, u "<init>"), (0, u "()V"), (1, .class_ 10), (1, u "java/lang/Object")] 113

def k0m0 : Method := { name := "<init>", desc := "()V", sig := { parameters := [], returnType := none }, accessFlags := 1, code := none }
/-- java/lang/Object -/
def k0 : Class := { plain "java/lang/Object" none with
  accessFlags := 33
  interfaces := #[]
  cf := some (fileOf pool0 8 #[] #[{ accessFlags := 1, nameIndex := 5, descriptorIndex := 6, attributes := #[] }] 33 0 #[] #[])
  fields := #[]
  methods := #[k0m0]
  instanceTypes := #[]
  staticTypes := #[]
  resolved := Array.replicate 124 none
  statics := none }

def pool1 : Array CpInfo := pool [(2, .class_ 4), (1, u "java/lang/Object"), (0, u "<init>"), (0, u "()V"), (0, .fieldref 8 9), (0, .class_ 10), (0, .nameAndType 11 12), (0, u "com/example/twindeck/twindeck/cards/Rank"), (0, u "ACE"), (0, u "Lcom/example/twindeck/twindeck/cards/Rank;"), (0, .fieldref 8 14), (0, .nameAndType 15 12), (0, u "TWO"), (0, .fieldref 8 17), (0, .nameAndType 18 12), (0, u "THREE"), (0, .fieldref 8 20), (0, .nameAndType 21 12), (0, u "FOUR"), (0, .fieldref 8 23), (0, .nameAndType 24 12), (0, u "FIVE"), (0, .fieldref 8 26), (0, .nameAndType 27 12), (0, u "SIX"), (0, .fieldref 8 29), (0, .nameAndType 30 12), (0, u "SEVEN"), (0, .fieldref 8 32), (0, .nameAndType 33 12), (0, u "EIGHT"), (0, .fieldref 8 35), (0, .nameAndType 36 12), (0, u "NINE"), (0, .fieldref 8 38), (0, .nameAndType 39 12), (0, u "TEN"), (0, .fieldref 8 41), (0, .nameAndType 42 12), (0, u "JACK"), (0, .fieldref 8 44), (0, .nameAndType 45 12), (0, u "QUEEN"), (0, .fieldref 8 47), (0, .nameAndType 48 12), (0, u "KING"), (0, .integer 2147483647), (0, .methodref 51 52), (0, .class_ 53), (0, .nameAndType 54 55), (0, u "com/example/twindeck/twindeck/melds/Meld"), (0, u "rankAt"), (0, u "(I)Lcom/example/twindeck/twindeck/cards/Rank;"), (0, .methodref 57 58), (0, .class_ 59), (0, .nameAndType 60 55), (0, u "com/example/twindeck/twindeck/melds/MeldRankAtPinLaw"), (0, u "expected"), (3, u "law"), (0, u "(I)Z")] 2

def k1m0 : Method := { name := "<init>", desc := "()V", sig := { parameters := [], returnType := none }, accessFlags := 2, code := none }
def k1c1 : Code := { maxStack := 2, maxLocals := 1, code := method_2_code, exceptionTable := #[], attributes := #[] }
def k1m1 : Method := { name := "expected", desc := "(I)Lcom/example/twindeck/twindeck/cards/Rank;", sig := { parameters := [.int], returnType := some (.object "com/example/twindeck/twindeck/cards/Rank") }, accessFlags := 10, code := some k1c1 }
def k1c2 : Code := { maxStack := 2, maxLocals := 3, code := code, exceptionTable := #[], attributes := #[] }
def k1m2 : Method := { name := "law", desc := "(I)Z", sig := { parameters := [.int], returnType := some .boolean }, accessFlags := 9, code := some k1c2 }
/-- com/example/twindeck/twindeck/melds/MeldRankAtPinLaw -/
def k1 : Class := { plain "com/example/twindeck/twindeck/melds/MeldRankAtPinLaw" (some 0) with
  accessFlags := 49
  interfaces := #[]
  cf := some (fileOf pool1 57 #[] #[{ accessFlags := 2, nameIndex := 5, descriptorIndex := 6, attributes := #[] }, { accessFlags := 10, nameIndex := 60, descriptorIndex := 55, attributes := #[] }, { accessFlags := 9, nameIndex := 64, descriptorIndex := 65, attributes := #[] }] 49 2 #[] #[])
  fields := #[]
  methods := #[k1m0, k1m1, k1m2]
  instanceTypes := #[]
  staticTypes := #[]
  resolved := Array.replicate 68 none
  statics := none }

def pool2 : Array CpInfo := pool [(2, .class_ 4), (1, u "java/lang/Object"), (9, .class_ 16), (1, u "com/example/twindeck/twindeck/melds/Meld"), (0, u "cards"), (0, u "Ljava/util/List;"), (69, .fieldref 14 89), (0, .nameAndType 90 91), (0, u "RANKS"), (0, u "[Lcom/example/twindeck/twindeck/cards/Rank;"), (14, u "ACE_HIGH"), (0, u "I"), (14, u "rankAt"), (0, u "(I)Lcom/example/twindeck/twindeck/cards/Rank;"), (62, u "MIN_SET"), (2, u "MIN_RUN")] 22

def k2c0 : Code := { maxStack := 3, maxLocals := 1, code := prog_28_method_12_code, exceptionTable := #[], attributes := #[] }
def k2m0 : Method := { name := "rankAt", desc := "(I)Lcom/example/twindeck/twindeck/cards/Rank;", sig := { parameters := [.int], returnType := some (.object "com/example/twindeck/twindeck/cards/Rank") }, accessFlags := 9, code := some k2c0 }
/-- com/example/twindeck/twindeck/melds/Meld -/
def k2 : Class := { plain "com/example/twindeck/twindeck/melds/Meld" (some 0) with
  accessFlags := 49
  interfaces := #[]
  cf := some (fileOf pool2 14 #[] #[{ accessFlags := 9, nameIndex := 122, descriptorIndex := 123, attributes := #[] }] 49 2 #[] #[{ accessFlags := 25, nameIndex := 186, descriptorIndex := 107, attributes := #[] }, { accessFlags := 25, nameIndex := 189, descriptorIndex := 107, attributes := #[] }, { accessFlags := 26, nameIndex := 90, descriptorIndex := 91, attributes := #[] }, { accessFlags := 25, nameIndex := 106, descriptorIndex := 107, attributes := #[] }, { accessFlags := 18, nameIndex := 17, descriptorIndex := 18, attributes := #[] }])
  fields := #[{ name := "MIN_SET", type := .int, accessFlags := 25, slot := 0, constantValue := 0 }, { name := "MIN_RUN", type := .int, accessFlags := 25, slot := 1, constantValue := 0 }, { name := "RANKS", type := (.array (.object "com/example/twindeck/twindeck/cards/Rank")), accessFlags := 26, slot := 2, constantValue := 0 }, { name := "ACE_HIGH", type := .int, accessFlags := 25, slot := 3, constantValue := 0 }, { name := "cards", type := (.object "java/util/List"), accessFlags := 18, slot := 0, constantValue := 0 }]
  methods := #[k2m0]
  instanceTypes := #[(.object "java/util/List")]
  staticTypes := #[.int, .int, (.array (.object "com/example/twindeck/twindeck/cards/Rank")), .int]
  resolved := Array.replicate 212 none
  statics := some 0 }

def pool3 : Array CpInfo := pool [(1, .class_ 2), (0, u "java/lang/constant/Constable"), (0, .class_ 4), (0, u "java/lang/Object")] 6

/-- java/lang/constant/Constable -/
def k3 : Class := { plain "java/lang/constant/Constable" (some 0) with
  accessFlags := 1537
  interfaces := #[]
  cf := some (fileOf pool3 1 #[] #[] 1537 3 #[] #[])
  fields := #[]
  methods := #[]
  instanceTypes := #[]
  staticTypes := #[]
  resolved := Array.replicate 11 none
  statics := none }

def pool4 : Array CpInfo := pool [(1, .class_ 2), (0, u "java/lang/Comparable"), (0, .class_ 4), (0, u "java/lang/Object")] 7

/-- java/lang/Comparable -/
def k4 : Class := { plain "java/lang/Comparable" (some 0) with
  accessFlags := 1537
  interfaces := #[]
  cf := some (fileOf pool4 1 #[] #[] 1537 3 #[] #[])
  fields := #[]
  methods := #[]
  instanceTypes := #[]
  staticTypes := #[]
  resolved := Array.replicate 12 none
  statics := none }

def pool5 : Array CpInfo := pool [(1, .class_ 2), (0, u "java/io/Serializable"), (0, .class_ 4), (0, u "java/lang/Object")] 2

/-- java/io/Serializable -/
def k5 : Class := { plain "java/io/Serializable" (some 0) with
  accessFlags := 1537
  interfaces := #[]
  cf := some (fileOf pool5 1 #[] #[] 1537 3 #[] #[])
  fields := #[]
  methods := #[]
  instanceTypes := #[]
  staticTypes := #[]
  resolved := Array.replicate 7 none
  statics := none }

def pool6 : Array CpInfo := pool [(2, .class_ 4), (1, u "java/lang/Enum"), (0, u "name"), (0, u "Ljava/lang/String;"), (2, u "ordinal"), (0, u "I"), (1, .class_ 14), (1, u "java/lang/Object"), (4, u "hash"), (86, .class_ 108), (1, u "java/lang/Enum$EnumDesc"), (2, .class_ 112), (0, u "java/lang/constant/Constable"), (0, .class_ 114), (0, u "java/lang/Comparable"), (0, .class_ 116), (0, u "java/io/Serializable")] 87

/-- java/lang/Enum -/
def k6 : Class := { plain "java/lang/Enum" (some 0) with
  accessFlags := 1057
  interfaces := #[3, 4, 5]
  cf := some (fileOf pool6 2 #[.nestMembers #[106]] #[] 1057 12 #[111, 113, 115] #[{ accessFlags := 18, nameIndex := 5, descriptorIndex := 6, attributes := #[] }, { accessFlags := 18, nameIndex := 9, descriptorIndex := 10, attributes := #[] }, { accessFlags := 2, nameIndex := 19, descriptorIndex := 10, attributes := #[] }])
  fields := #[{ name := "name", type := (.object "java/lang/String"), accessFlags := 18, slot := 0, constantValue := 0 }, { name := "ordinal", type := .int, accessFlags := 18, slot := 1, constantValue := 0 }, { name := "hash", type := .int, accessFlags := 2, slot := 2, constantValue := 0 }]
  methods := #[]
  instanceTypes := #[(.object "java/lang/String"), .int, .int]
  staticTypes := #[]
  resolved := Array.replicate 204 none
  statics := none }

def pool7 : Array CpInfo := pool [(1, .class_ 2), (0, u "com/example/twindeck/twindeck/cards/Rank"), (2, u "ACE"), (0, u "Lcom/example/twindeck/twindeck/cards/Rank;"), (2, u "TWO"), (2, u "THREE"), (2, u "FOUR"), (2, u "FIVE"), (2, u "SIX"), (2, u "SEVEN"), (2, u "EIGHT"), (2, u "NINE"), (2, u "TEN"), (2, u "JACK"), (2, u "QUEEN"), (2, u "KING"), (2, u "$VALUES"), (0, u "[Lcom/example/twindeck/twindeck/cards/Rank;"), (6, .class_ 55), (1, u "java/lang/Enum"), (8, u "spelt"), (0, u "Ljava/lang/String;"), (2, u "word")] 67

/-- com/example/twindeck/twindeck/cards/Rank -/
def k7 : Class := { plain "com/example/twindeck/twindeck/cards/Rank" (some 6) with
  accessFlags := 16433
  interfaces := #[]
  cf := some (fileOf pool7 1 #[] #[] 16433 53 #[] #[{ accessFlags := 16409, nameIndex := 5, descriptorIndex := 6, attributes := #[] }, { accessFlags := 16409, nameIndex := 9, descriptorIndex := 6, attributes := #[] }, { accessFlags := 16409, nameIndex := 12, descriptorIndex := 6, attributes := #[] }, { accessFlags := 16409, nameIndex := 15, descriptorIndex := 6, attributes := #[] }, { accessFlags := 16409, nameIndex := 18, descriptorIndex := 6, attributes := #[] }, { accessFlags := 16409, nameIndex := 21, descriptorIndex := 6, attributes := #[] }, { accessFlags := 16409, nameIndex := 24, descriptorIndex := 6, attributes := #[] }, { accessFlags := 16409, nameIndex := 27, descriptorIndex := 6, attributes := #[] }, { accessFlags := 16409, nameIndex := 30, descriptorIndex := 6, attributes := #[] }, { accessFlags := 16409, nameIndex := 33, descriptorIndex := 6, attributes := #[] }, { accessFlags := 16409, nameIndex := 36, descriptorIndex := 6, attributes := #[] }, { accessFlags := 16409, nameIndex := 39, descriptorIndex := 6, attributes := #[] }, { accessFlags := 16409, nameIndex := 42, descriptorIndex := 6, attributes := #[] }, { accessFlags := 18, nameIndex := 64, descriptorIndex := 65, attributes := #[] }, { accessFlags := 18, nameIndex := 68, descriptorIndex := 65, attributes := #[] }, { accessFlags := 4122, nameIndex := 45, descriptorIndex := 46, attributes := #[] }])
  fields := #[{ name := "ACE", type := (.object "com/example/twindeck/twindeck/cards/Rank"), accessFlags := 16409, slot := 0, constantValue := 0 }, { name := "TWO", type := (.object "com/example/twindeck/twindeck/cards/Rank"), accessFlags := 16409, slot := 1, constantValue := 0 }, { name := "THREE", type := (.object "com/example/twindeck/twindeck/cards/Rank"), accessFlags := 16409, slot := 2, constantValue := 0 }, { name := "FOUR", type := (.object "com/example/twindeck/twindeck/cards/Rank"), accessFlags := 16409, slot := 3, constantValue := 0 }, { name := "FIVE", type := (.object "com/example/twindeck/twindeck/cards/Rank"), accessFlags := 16409, slot := 4, constantValue := 0 }, { name := "SIX", type := (.object "com/example/twindeck/twindeck/cards/Rank"), accessFlags := 16409, slot := 5, constantValue := 0 }, { name := "SEVEN", type := (.object "com/example/twindeck/twindeck/cards/Rank"), accessFlags := 16409, slot := 6, constantValue := 0 }, { name := "EIGHT", type := (.object "com/example/twindeck/twindeck/cards/Rank"), accessFlags := 16409, slot := 7, constantValue := 0 }, { name := "NINE", type := (.object "com/example/twindeck/twindeck/cards/Rank"), accessFlags := 16409, slot := 8, constantValue := 0 }, { name := "TEN", type := (.object "com/example/twindeck/twindeck/cards/Rank"), accessFlags := 16409, slot := 9, constantValue := 0 }, { name := "JACK", type := (.object "com/example/twindeck/twindeck/cards/Rank"), accessFlags := 16409, slot := 10, constantValue := 0 }, { name := "QUEEN", type := (.object "com/example/twindeck/twindeck/cards/Rank"), accessFlags := 16409, slot := 11, constantValue := 0 }, { name := "KING", type := (.object "com/example/twindeck/twindeck/cards/Rank"), accessFlags := 16409, slot := 12, constantValue := 0 }, { name := "spelt", type := (.object "java/lang/String"), accessFlags := 18, slot := 3, constantValue := 0 }, { name := "word", type := (.object "java/lang/String"), accessFlags := 18, slot := 4, constantValue := 0 }, { name := "$VALUES", type := (.array (.object "com/example/twindeck/twindeck/cards/Rank")), accessFlags := 4122, slot := 13, constantValue := 0 }]
  methods := #[]
  instanceTypes := #[(.object "java/lang/String"), .int, .int, (.object "java/lang/String"), (.object "java/lang/String")]
  staticTypes := #[(.object "com/example/twindeck/twindeck/cards/Rank"), (.object "com/example/twindeck/twindeck/cards/Rank"), (.object "com/example/twindeck/twindeck/cards/Rank"), (.object "com/example/twindeck/twindeck/cards/Rank"), (.object "com/example/twindeck/twindeck/cards/Rank"), (.object "com/example/twindeck/twindeck/cards/Rank"), (.object "com/example/twindeck/twindeck/cards/Rank"), (.object "com/example/twindeck/twindeck/cards/Rank"), (.object "com/example/twindeck/twindeck/cards/Rank"), (.object "com/example/twindeck/twindeck/cards/Rank"), (.object "com/example/twindeck/twindeck/cards/Rank"), (.object "com/example/twindeck/twindeck/cards/Rank"), (.object "com/example/twindeck/twindeck/cards/Rank"), (.array (.object "com/example/twindeck/twindeck/cards/Rank"))]
  resolved := Array.replicate 136 none
  statics := some 1 }

def pool8 : Array CpInfo := pool [(1, u "java/lang/Cloneable"), (0, .class_ 1), (0, u "java/lang/Object"), (0, .class_ 3)] 3

/-- java/lang/Cloneable -/
def k8 : Class := { plain "java/lang/Cloneable" (some 0) with
  accessFlags := 1537
  interfaces := #[]
  cf := some (fileOf pool8 2 #[] #[] 1537 4 #[] #[])
  fields := #[]
  methods := #[]
  instanceTypes := #[]
  staticTypes := #[]
  resolved := Array.replicate 8 none
  statics := none }

/-- the primitive byte -/
def k9 : Class := { plain "byte" none with kind := .primitive 'B', accessFlags := 0x411 }
/-- [B -/
def k10 : Class := { plain "[B" (some 0) with kind := .array 9 .byte, interfaces := #[8, 5], accessFlags := 1041 }

/-- the primitive int -/
def k11 : Class := { plain "int" none with kind := .primitive 'I', accessFlags := 0x411 }
/-- [I -/
def k12 : Class := { plain "[I" (some 0) with kind := .array 11 .int, interfaces := #[8, 5], accessFlags := 1041 }

/-- [Lcom/example/twindeck/twindeck/cards/Rank; -/
def k13 : Class := { plain "[Lcom/example/twindeck/twindeck/cards/Rank;" (some 0) with kind := .array 7 (.object "com/example/twindeck/twindeck/cards/Rank"), interfaces := #[8, 5], accessFlags := 1041 }

def heap : Heap := #[{ cls := 2, slots := #[.int 0, .int 0, .ref 2, .int 0], vm := .statics 2 },
  { cls := 7, slots := #[.ref 3, .ref 12, .ref 8, .ref 4, .ref 6, .ref 14, .ref 15, .ref 7, .ref 11, .ref 13, .ref 10, .ref 9, .ref 5, .null], vm := .statics 7 },
  { cls := 13, slots := #[.ref 3, .ref 12, .ref 8, .ref 4, .ref 6, .ref 14, .ref 15, .ref 7, .ref 11, .ref 13, .ref 10, .ref 9, .ref 5], vm := .none },
  { cls := 7, slots := #[.null, .int 0, .int 0, .null, .null], vm := .none },
  { cls := 7, slots := #[.null, .int 0, .int 0, .null, .null], vm := .none },
  { cls := 7, slots := #[.null, .int 0, .int 0, .null, .null], vm := .none },
  { cls := 7, slots := #[.null, .int 0, .int 0, .null, .null], vm := .none },
  { cls := 7, slots := #[.null, .int 0, .int 0, .null, .null], vm := .none },
  { cls := 7, slots := #[.null, .int 0, .int 0, .null, .null], vm := .none },
  { cls := 7, slots := #[.null, .int 0, .int 0, .null, .null], vm := .none },
  { cls := 7, slots := #[.null, .int 0, .int 0, .null, .null], vm := .none },
  { cls := 7, slots := #[.null, .int 0, .int 0, .null, .null], vm := .none },
  { cls := 7, slots := #[.null, .int 0, .int 0, .null, .null], vm := .none },
  { cls := 7, slots := #[.null, .int 0, .int 0, .null, .null], vm := .none },
  { cls := 7, slots := #[.null, .int 0, .int 0, .null, .null], vm := .none },
  { cls := 7, slots := #[.null, .int 0, .int 0, .null, .null], vm := .none }]
def classes : Array Class := #[k0, k1, k2, k3, k4, k5, k6, k7, k8, k9, k10, k11, k12, k13]
def interned : List (Array UInt16 × Addr) := []
def slotsUsed : Nat := 96
def theMethod : MethodId := ⟨1, 2⟩
def args0 : Array Value := #[.int 1]
def aboutOver (below : List Frame) : State where
  vm := { classes := classes, interned := interned.toArray }
  heap := heap
  slotsUsed := slotsUsed
  threads := #[{ frames := .invoking theMethod args0 :: below }]
def below0 : List Frame := [.native { method := ⟨0, 0⟩, args := #[] }]
def about1 : State := aboutOver below0
def p0 : Program := .bare "" "" ""
def e0 : Env := launch0.env 0 0 0
theorem w_frames : about1.frames = Frame.invoking theMethod args0 :: below0 := rfl
set_option maxRecDepth 65536 in
theorem w_args : argsFit about1.vm theMethod args0 = true := by decide +kernel
set_option maxRecDepth 65536 in
theorem w_heap : heapFits about1 = true := by decide +kernel
set_option maxRecDepth 65536 in
theorem w_runnable : about1.curStatus? = some .runnable := by decide +kernel
set_option maxRecDepth 65536 in
theorem w_alone : about1.alone = true := by decide +kernel
set_option maxRecDepth 65536 in
theorem w_named : about1.methodNamed? x = some theMethod := by decide +kernel
set_option maxRecDepth 65536 in
theorem w_hears : about1.hears theMethod below0 = true := by decide +kernel
set_option maxRecDepth 65536 in
theorem w_ripe : about1.ripe theMethod args0 below0 = true := by decide +kernel
theorem w_running : about1.status = .running := rfl
set_option maxRecDepth 65536 in
theorem w_room : about1.hasRoom e0.platform room_1 = true :=
  launch0.hasRoom_least _ room_1 (by decide +kernel) (by decide +kernel) (by decide +kernel) (by decide +kernel) (by decide +kernel) (by decide +kernel)
theorem allAtoms_all (ts : List Jvm.Cond) (a : Array Jvm.Value) (st : Jvm.State) : (allAtoms ts).before a st = ts.all (fun c => c.before a st) := by
  induction ts with
  | nil => rfl
  | cons c t ih =>
    show (Jvm.Cond.and c (allAtoms t)).before a st = _
    rw [Jvm.Cond.before_and, ih, List.all_cons]
def words1 : List Jvm.Cond := Jvm.Cond.code x code maxLocals ret :: tables_1
/-- a 'code' word, met by the world's own term for the bytes: nothing is compared byte by byte -/
theorem code_word {y : MethodName} {bytes : ByteArray} {mx : Nat} {rt : Option FieldType} {a : Array Value} {s : State} {m : MethodId} {meth : Method} {c : Code} (h1 : s.methodNamed? y = some m) (h2 : s.vm.method? m = some meth) (h3 : meth.code = some c) (h4 : c.code = bytes)
    (h5 : (c.maxLocals == mx && c.exceptionTable.isEmpty && decide (c.maxStack ≤ mostOperands) && decide (meth.sig.returnType = rt) && !meth.locks && decide (parseMethodDescriptor y.desc = some meth.sig)) = true) : (Jvm.Cond.code y bytes mx rt).before a s = true := by
  simp only [Bool.and_eq_true, beq_iff_eq, Bool.not_eq_true', decide_eq_true_eq] at h5
  obtain ⟨⟨⟨⟨⟨g1, g2⟩, g3⟩, g4⟩, g5⟩, g6⟩ := h5
  simp [Cond.before, Cond.holds, Cond.value, h1, h2, h3, h4, g1, g2, g3, g4, g5, g6]
def isCode : Jvm.Cond → Bool
  | .code _ _ _ _ => true
  | _ => false
theorem all_split {L : List Jvm.Cond} {P : Jvm.Cond → Bool} (h1 : L.all (fun c => isCode c || P c) = true) (h2 : ∀ c ∈ L.filter isCode, P c = true) : L.all P = true := by
  refine List.all_eq_true.mpr fun c hc => ?_
  have h := List.all_eq_true.mp h1 c hc
  rcases Bool.eq_false_or_eq_true (isCode c) with hi | hi
  · exact h2 c (List.mem_filter.mpr ⟨hc, hi⟩)
  · simpa [hi] using h
set_option maxRecDepth 65536 in
theorem w_c0 : (Jvm.Cond.code x code maxLocals ret).before args0 about1 = true := code_word (m := ⟨1, 2⟩) (meth := k1m2) (c := k1c2) (by decide +kernel) rfl rfl rfl (by decide +kernel)
set_option maxRecDepth 65536 in
theorem w_c1 : (Jvm.Cond.code ({ cls := "com/example/twindeck/twindeck/melds/Meld", name := "rankAt", desc := "(I)Lcom/example/twindeck/twindeck/cards/Rank;" } : Jvm.MethodName) prog_28_method_12_code (1 : Nat) (Option.some (Jvm.ClassFile.FieldType.object "com/example/twindeck/twindeck/cards/Rank"))).before args0 about1 = true := code_word (m := ⟨2, 0⟩) (meth := k2m0) (c := k2c0) (by decide +kernel) rfl rfl rfl (by decide +kernel)
set_option maxRecDepth 65536 in
theorem w_c2 : (Jvm.Cond.code ({ cls := "com/example/twindeck/twindeck/melds/MeldRankAtPinLaw", name := "expected", desc := "(I)Lcom/example/twindeck/twindeck/cards/Rank;" } : Jvm.MethodName) method_2_code (1 : Nat) (Option.some (Jvm.ClassFile.FieldType.object "com/example/twindeck/twindeck/cards/Rank"))).before args0 about1 = true := code_word (m := ⟨1, 1⟩) (meth := k1m1) (c := k1c1) (by decide +kernel) rfl rfl rfl (by decide +kernel)
def codes1 : List Jvm.Cond := [Jvm.Cond.code x code maxLocals ret, Jvm.Cond.code ({ cls := "com/example/twindeck/twindeck/melds/Meld", name := "rankAt", desc := "(I)Lcom/example/twindeck/twindeck/cards/Rank;" } : Jvm.MethodName) prog_28_method_12_code (1 : Nat) (Option.some (Jvm.ClassFile.FieldType.object "com/example/twindeck/twindeck/cards/Rank")), Jvm.Cond.code ({ cls := "com/example/twindeck/twindeck/melds/MeldRankAtPinLaw", name := "expected", desc := "(I)Lcom/example/twindeck/twindeck/cards/Rank;" } : Jvm.MethodName) method_2_code (1 : Nat) (Option.some (Jvm.ClassFile.FieldType.object "com/example/twindeck/twindeck/cards/Rank"))]
set_option maxRecDepth 65536 in
theorem codes_eq : words1.filter isCode = codes1 := rfl
theorem w_codes : ∀ c ∈ words1.filter isCode, c.before args0 about1 = true := by
  rw [codes_eq]
  intro c hc
  simp only [codes1, List.mem_cons, List.not_mem_nil, or_false] at hc
  rcases hc with rfl | rfl | rfl
  · exact w_c0
  · exact w_c1
  · exact w_c2
set_option maxRecDepth 65536 in
theorem w_t1 : (words1.take 24).all (fun c => isCode c || c.before args0 about1) = true := by decide +kernel
set_option maxRecDepth 65536 in
theorem w_t2 : (words1.drop 24).all (fun c => isCode c || c.before args0 about1) = true := by decide +kernel
theorem w_tables : (allAtoms (Jvm.Cond.code x code maxLocals ret :: tables_1)).before args0 about1 = true := by
  rw [allAtoms_all]
  show words1.all (fun c => c.before args0 about1) = true
  refine all_split ?_ w_codes
  rw [← List.take_append_drop 24 words1, List.all_append, w_t1, w_t2]
  rfl
set_option maxRecDepth 65536 in
theorem w_case : (Jvm.Cond.and given_1 narrow_1).before args0 about1 = true := by decide +kernel
theorem w_applies : (headSpec (Jvm.Cond.code x code maxLocals ret :: tables_1) room_1).applies x e0.platform about1 = true :=
  (Spec.applies_iff w_frames).mpr ⟨w_running, w_runnable, w_alone, w_named, w_hears, w_ripe, w_room, w_tables⟩
theorem atStart : AtStart classFile x code maxLocals ret World_1 tables_1 room_1 Calls_1 rest_1 Pre_1 launch0 p0 e0 about1 theMethod args0 below0 :=
  ⟨lists_1, trivial, launch0.admits_env _ _ _, launch0.least_env, fairChoices_fair.cas, fairChoices_fair.clock, w_frames, w_args, w_heap, w_applies, trivial, trivial, w_case⟩
end start1
theorem witness_1 : WitnessClaimed_1 := ⟨start1.p0, start1.e0, start1.about1, start1.theMethod, start1.args0, start1.below0, start1.atStart⟩
end Jvm.Pilot.@@N@@
