import JvmDerived
import JvmDerived.Pilot.@@N@@Statement
import JvmDerived.Pilot.@@N@@Code
set_option linter.unusedVariables false
set_option linter.unusedSimpArgs false
namespace Jvm.Pilot.@@N@@
open Jvm Jvm.ClassFile Sem Op Lib Jvm.Free Jvm.Stand Jvm.LawKit Jvm.RoadKit Bundle Jvm.Pilot.@@N@@.Jvm.D
section Own
variable {p : Program} {l : Launch} {e : Env} {R : Room} {s : State} {m : MethodId} {args : Array Value} {below : List Frame} {meth : Method} {c : Code} {T T' : State} {locs : List Loc} {cells slots : Nat} {Z : State} {a0 : Array Value} {h : Heap} {P : State → Prop} {pc q : Nat} {Ls : Array Slot} {S : List Value} {g g' : JFrame}
/-- from this state on the run comes to one of which P holds -/
def Go (p : Program) (e : Env) (below : List Frame) (P : State → Prop) (T : State) (g : JFrame) : Prop := ∃ n, Steps p.tables e below (T.setTop g) n ∧ P n
theorem Go.by_ (k : ∀ t, Steps p.tables e below (T'.setTop g') t → Steps p.tables e below (T.setTop g) t) (h : Go p e below P T' g') : Go p e below P T g := by
  obtain ⟨n, a, b⟩ := h; exact ⟨n, k n a, b⟩
theorem Go.tr (k : Steps p.tables e below (T.setTop g) (T'.setTop g')) (h : Go p e below P T' g') : Go p e below P T g := by
  obtain ⟨n, a, b⟩ := h; exact ⟨n, k.trans a, b⟩
/-- what the whole body knows of its method -/
def Kt (p : Program) (Z s : State) (m : MethodId) (meth : Method) (c : Code) (y : MethodName) (bytes : ByteArray) (maxL : Nat) (ret : Option FieldType) : Prop :=
  p.tables.exec = Jvm.exec ∧ Z.Warmed39 s.vm ∧ c.code = bytes ∧ c.maxLocals = maxL ∧ s.vm.findClass y.cls = some m.cls ∧ meth.sig.returnType = ret ∧ meth.locks = false ∧ meth.name = y.name ∧ s.methodNamed? y = some m
variable {y : MethodName} {bytes : ByteArray} {maxL : Nat} {ret : Option FieldType}
theorem Kt.x (K : Kt p Z s m meth c y bytes maxL ret) : p.tables.exec = Jvm.exec := K.1
theorem Kt.z (K : Kt p Z s m meth c y bytes maxL ret) : Z.Warmed39 s.vm := K.2.1
theorem Kt.ml (K : Kt p Z s m meth c y bytes maxL ret) : c.maxLocals = maxL := K.2.2.2.1
theorem Kt.own (K : Kt p Z s m meth c y bytes maxL ret) : s.vm.findClass y.cls = some m.cls := K.2.2.2.2.1
theorem Kt.rt (K : Kt p Z s m meth c y bytes maxL ret) : meth.sig.returnType = ret := K.2.2.2.2.2.1
theorem Kt.lk (K : Kt p Z s m meth c y bytes maxL ret) : meth.locks = false := K.2.2.2.2.2.2.1
theorem Kt.nm (K : Kt p Z s m meth c y bytes maxL ret) : meth.name = y.name := K.2.2.2.2.2.2.2.1
theorem Kt.named (K : Kt p Z s m meth c y bytes maxL ret) : s.methodNamed? y = some m := K.2.2.2.2.2.2.2.2
theorem Kt.d (K : Kt p Z s m meth c y bytes maxL ret) {r : Except DecodeError (Instr × Nat)} (h : decode bytes pc = r) : decode c.code pc = r := by rw [K.2.2.1]; exact h
/-- the end of a body -/
def Done (s : State) (below : List Frame) (Q : Option Value → Heap → List Loc → Prop) (kc ks : Nat) (n : State) : Prop :=
  ∃ o, n.status = .running ∧ Ended n below o ∧ ∃ v L, o = .returned v ∧ Q v n.heap L ∧ FrameEnd s o n L kc ks
/-- a body's contract -/
def Mt (l : Launch) (Z : State) (y : MethodName) (bytes : ByteArray) (maxL : Nat) (ret : Option FieldType) (ws : List Jvm.Cond) (rm : Room) (as' : Array Value) (h0 : Heap) (Q : Option Value → Heap → List Loc → Prop) : Prop :=
  MetFree l y (head1 (Jvm.Cond.code y bytes maxL ret :: ws) rm) (fun a U => a = as' ∧ Z.Warmed39 U.vm ∧ U.heap = h0) (fun _ _ _ _ _ => True) (fun _ U o U' => ∃ v L, o = .returned v ∧ Q v U'.heap L ∧ FrameEnd U o U' L rm.cells rm.slots)
theorem g_body {ws : List Jvm.Cond} {rm : Room} {as' : Array Value} {h0 : Heap} {Q : Option Value → Heap → List Loc → Prop} (hpl : plainFor y = true)
    (H : ∀ (p : Program) (e : Env) (s : State) (m : MethodId) (below : List Frame) (meth : Method) (c : Code) (T : State), Kt p Z s m meth c y bytes maxL ret → Stand p l e rm s m as' below meth c T [] 0 0 → T.heap = h0 → Go p e below (Done s below Q rm.cells rm.slots) T (entryFrame m as' maxL)) :
    Mt l Z y bytes maxL ret ws rm as' h0 Q := by
  refine MetFree.of_bodySF hpl hisR ?_
  intro p e s m args below meth c s₁ Bd hml0 hP hK
  obtain ⟨rfl, hZ, hh⟩ := hP
  obtain ⟨n, a, o, b1, b2, b3⟩ := H p e s m below meth c s₁ ⟨Bd.exec, hZ, Bd.bytes, hml0, findClass_of_methodNamed Bd.named, Bd.returns, BodyLoose.notSynchronized Bd, (name_of_methodNamed Bd.named Bd.method).1, Bd.named⟩ (Stand.of_body Bd) (by rw [← hh, Bd.state]; rfl)
  exact ⟨n, o, a, b1, b2, b3⟩
variable {Q : Option Value → Heap → List Loc → Prop} {kc ks : Nat}
theorem g_entry (q : g = g') (h : Go p e below P T g') : Go p e below P T g := q ▸ h
/-! returns -/
theorem g_ret (X : Stand p l e R s m args below meth c T locs cells slots) (K : Kt p Z s m meth c y bytes maxL none) (hd : decode bytes pc = .ok (.return_, 1)) (hc : cells ≤ kc) (hs : slots ≤ ks) (hQ : Q none T.heap locs) : Go p e below (Done s below Q kc ks) T (mkF m pc Ls []) := by
  obtain ⟨fs, hr, hrun, hended, hW, hsame⟩ := X.leave (v := none) (fun _ => rfl) K.lk
  exact ⟨_, X.returnOut K.x K.rt (K.d hd) hr, _, hrun, hended, _, _, rfl, hQ, ⟨_, rfl⟩, hW, hsame.mono hc hs⟩
theorem g_iret (X : Stand p l e R s m args below meth c T locs cells slots) (K : Kt p Z s m meth c y bytes maxL (some .int)) {z : Int32} (hd : decode bytes pc = .ok (.ireturn, 1)) (hc : cells ≤ kc) (hs : slots ≤ ks) (hQ : Q (some (.int z)) T.heap locs) : Go p e below (Done s below Q kc ks) T (mkF m pc Ls (.int z :: S)) := by
  obtain ⟨fs, hr, hrun, hended, hW, hsame⟩ := X.leave (v := some (.int z)) (fun h => by rw [K.rt] at h; cases h) K.lk
  exact ⟨_, retOut X K.x K.rt rfl (Or.inl ⟨rfl, Or.inl rfl, z, rfl⟩) (K.d hd) hr, _, hrun, hended, _, _, rfl, hQ, ⟨_, rfl⟩, hW, hsame.mono hc hs⟩
theorem g_nret {t : FieldType} (X : Stand p l e R s m args below meth c T locs cells slots) (K : Kt p Z s m meth c y bytes maxL (some t)) (ht : t = .boolean ∨ t = .byte ∨ t = .char ∨ t = .short) {z z' : Int32} (hn : nar t z = z') (hd : decode bytes pc = .ok (.ireturn, 1)) (hc : cells ≤ kc) (hs : slots ≤ ks) (hQ : Q (some (.int z')) T.heap locs) : Go p e below (Done s below Q kc ks) T (mkF m pc Ls (.int z :: S)) := by
  subst hn
  obtain ⟨fs, hr, hrun, hended, hW, hsame⟩ := X.leave (v := some (.int (nar t z))) (fun h => by rw [K.rt] at h; cases h) K.lk
  exact ⟨_, retN X K.x K.rt ht (K.d hd) hr, _, hrun, hended, _, _, rfl, hQ, ⟨_, rfl⟩, hW, hsame.mono hc hs⟩
theorem g_lret (X : Stand p l e R s m args below meth c T locs cells slots) (K : Kt p Z s m meth c y bytes maxL (some .long)) {z : Int64} (hd : decode bytes pc = .ok (.lreturn, 1)) (hc : cells ≤ kc) (hs : slots ≤ ks) (hQ : Q (some (.long z)) T.heap locs) : Go p e below (Done s below Q kc ks) T (mkF m pc Ls (.long z :: S)) := by
  obtain ⟨fs, hr, hrun, hended, hW, hsame⟩ := X.leave (v := some (.long z)) (fun h => by rw [K.rt] at h; cases h) K.lk
  exact ⟨_, retOut X K.x K.rt rfl (Or.inr (Or.inl ⟨rfl, rfl, z, rfl⟩)) (K.d hd) hr, _, hrun, hended, _, _, rfl, hQ, ⟨_, rfl⟩, hW, hsame.mono hc hs⟩
theorem g_aret {t : FieldType} {w : Value} (X : Stand p l e R s m args below meth c T locs cells slots) (K : Kt p Z s m meth c y bytes maxL (some t)) (ht : t.isReference = true) (hw : w.isRef = true) (hn : narrow t w = w) (hd : decode bytes pc = .ok (.areturn, 1)) (hc : cells ≤ kc) (hs : slots ≤ ks) (hQ : Q (some w) T.heap locs) : Go p e below (Done s below Q kc ks) T (mkF m pc Ls (w :: S)) := by
  obtain ⟨fs, hr, hrun, hended, hW, hsame⟩ := X.leave (v := some w) (fun h => by rw [K.rt] at h; cases h) K.lk
  exact ⟨_, retOut X K.x K.rt hn (Or.inr (Or.inr (Or.inr (Or.inr ⟨rfl, ht, hw⟩)))) (K.d hd) hr, _, hrun, hended, _, _, rfl, hQ, ⟨_, rfl⟩, hW, hsame.mono hc hs⟩
/-! plain steps -/
section Plain
theorem g_iloadN (X : Stand p l e R s m args below meth c T locs cells slots) (K : Kt p Z s m meth c y bytes maxL ret) {k : Fin 4} {v : Int32} (hd : decode bytes pc = .ok (.iload_n k, 1)) (hl : Ls[k.val]? = some (.val (.int v))) (hq : pc + 1 = q) (h : Go p e below P T (mkF m q Ls (.int v :: S))) : Go p e below P T (mkF m pc Ls S) := by
  subst hq; exact Go.by_ (fun t k => XS.iloadN X.here K.x rfl (K.d hd) hl k) h
theorem g_iload (X : Stand p l e R s m args below meth c T locs cells slots) (K : Kt p Z s m meth c y bytes maxL ret) {k : Nat} {v : Int32} (hd : decode bytes pc = .ok (.iload k, 2)) (hl : Ls[k]? = some (.val (.int v))) (hq : pc + 2 = q) (h : Go p e below P T (mkF m q Ls (.int v :: S))) : Go p e below P T (mkF m pc Ls S) := by
  subst hq; exact Go.by_ (fun t k => XS.iload X.here K.x rfl (K.d hd) hl k) h
theorem g_lloadN (X : Stand p l e R s m args below meth c T locs cells slots) (K : Kt p Z s m meth c y bytes maxL ret) {k : Fin 4} {v : Int64} (hd : decode bytes pc = .ok (.lload_n k, 1)) (hl : Ls[k.val]? = some (.val (.long v))) (hq : pc + 1 = q) (h : Go p e below P T (mkF m q Ls (.long v :: S))) : Go p e below P T (mkF m pc Ls S) := by
  subst hq; exact Go.by_ (fun t k => XS.lloadN X.here K.x rfl (K.d hd) hl k) h
theorem g_lload (X : Stand p l e R s m args below meth c T locs cells slots) (K : Kt p Z s m meth c y bytes maxL ret) {k : Nat} {v : Int64} (hd : decode bytes pc = .ok (.lload k, 2)) (hl : Ls[k]? = some (.val (.long v))) (hq : pc + 2 = q) (h : Go p e below P T (mkF m q Ls (.long v :: S))) : Go p e below P T (mkF m pc Ls S) := by
  subst hq; exact Go.by_ (fun t k => XS.lload X.here K.x rfl (K.d hd) hl k) h
theorem g_aloadN (X : Stand p l e R s m args below meth c T locs cells slots) (K : Kt p Z s m meth c y bytes maxL ret) {k : Fin 4} {v : Value} (hd : decode bytes pc = .ok (.aload_n k, 1)) (hl : Ls[k.val]? = some (.val v)) (hv : v.isRef = true) (hq : pc + 1 = q) (h : Go p e below P T (mkF m q Ls (v :: S))) : Go p e below P T (mkF m pc Ls S) := by
  subst hq; exact Go.by_ (fun t k => XS.aloadN X.here K.x rfl (K.d hd) hl hv k) h
theorem g_aload (X : Stand p l e R s m args below meth c T locs cells slots) (K : Kt p Z s m meth c y bytes maxL ret) {k : Nat} {v : Value} (hd : decode bytes pc = .ok (.aload k, 2)) (hl : Ls[k]? = some (.val v)) (hv : v.isRef = true) (hq : pc + 2 = q) (h : Go p e below P T (mkF m q Ls (v :: S))) : Go p e below P T (mkF m pc Ls S) := by
  subst hq; exact Go.by_ (fun t k => XS.aload X.here K.x rfl (K.d hd) hl hv k) h
theorem g_istoreN (X : Stand p l e R s m args below meth c T locs cells slots) (K : Kt p Z s m meth c y bytes maxL ret) {k : Fin 4} {v : Int32} {L' : Array Slot} (hd : decode bytes pc = .ok (.istore_n k, 1)) (hl : storeLocals Ls k.val (.int v) = some L') (hq : pc + 1 = q) (h : Go p e below P T (mkF m q L' S)) : Go p e below P T (mkF m pc Ls (.int v :: S)) := by
  subst hq; exact Go.by_ (fun t k => XS.istoreN X.here K.x rfl (K.d hd) rfl hl k) h
theorem g_istore (X : Stand p l e R s m args below meth c T locs cells slots) (K : Kt p Z s m meth c y bytes maxL ret) {k : Nat} {v : Int32} {L' : Array Slot} (hd : decode bytes pc = .ok (.istore k, 2)) (hl : storeLocals Ls k (.int v) = some L') (hq : pc + 2 = q) (h : Go p e below P T (mkF m q L' S)) : Go p e below P T (mkF m pc Ls (.int v :: S)) := by
  subst hq; exact Go.by_ (fun t k => XS.istore X.here K.x rfl (K.d hd) rfl hl k) h
theorem g_lstoreN (X : Stand p l e R s m args below meth c T locs cells slots) (K : Kt p Z s m meth c y bytes maxL ret) {k : Fin 4} {v : Int64} {L' : Array Slot} (hd : decode bytes pc = .ok (.lstore_n k, 1)) (hl : storeLocals Ls k.val (.long v) = some L') (hq : pc + 1 = q) (h : Go p e below P T (mkF m q L' S)) : Go p e below P T (mkF m pc Ls (.long v :: S)) := by
  subst hq; exact Go.by_ (fun t k => XS.lstoreN X.here K.x rfl (K.d hd) rfl hl k) h
theorem g_lstore (X : Stand p l e R s m args below meth c T locs cells slots) (K : Kt p Z s m meth c y bytes maxL ret) {k : Nat} {v : Int64} {L' : Array Slot} (hd : decode bytes pc = .ok (.lstore k, 2)) (hl : storeLocals Ls k (.long v) = some L') (hq : pc + 2 = q) (h : Go p e below P T (mkF m q L' S)) : Go p e below P T (mkF m pc Ls (.long v :: S)) := by
  subst hq; exact Go.by_ (fun t k => XS.lstore X.here K.x rfl (K.d hd) rfl hl k) h
theorem g_astoreN (X : Stand p l e R s m args below meth c T locs cells slots) (K : Kt p Z s m meth c y bytes maxL ret) {k : Fin 4} {v : Value} {L' : Array Slot} (hd : decode bytes pc = .ok (.astore_n k, 1)) (hv : v.isRef = true) (hl : storeLocals Ls k.val v = some L') (hq : pc + 1 = q) (h : Go p e below P T (mkF m q L' S)) : Go p e below P T (mkF m pc Ls (v :: S)) := by
  subst hq; exact Go.by_ (fun t k => XS.astoreN X.here K.x rfl (K.d hd) rfl hv hl k) h
theorem g_astore (X : Stand p l e R s m args below meth c T locs cells slots) (K : Kt p Z s m meth c y bytes maxL ret) {k : Nat} {v : Value} {L' : Array Slot} (hd : decode bytes pc = .ok (.astore k, 2)) (hv : v.isRef = true) (hl : storeLocals Ls k v = some L') (hq : pc + 2 = q) (h : Go p e below P T (mkF m q L' S)) : Go p e below P T (mkF m pc Ls (v :: S)) := by
  subst hq; exact Go.by_ (fun t k => XS.astore X.here K.x rfl (K.d hd) rfl hv hl k) h
theorem g_iconst (X : Stand p l e R s m args below meth c T locs cells slots) (K : Kt p Z s m meth c y bytes maxL ret) {i : Int} {v : Int32} (hd : decode bytes pc = .ok (.iconst i, 1)) (hv : Int32.ofInt i = v) (hq : pc + 1 = q) (h : Go p e below P T (mkF m q Ls (.int v :: S))) : Go p e below P T (mkF m pc Ls S) := by
  subst hq hv; exact Go.by_ (fun t k => XS.iconst X.here K.x rfl (K.d hd) k) h
theorem g_bipush (X : Stand p l e R s m args below meth c T locs cells slots) (K : Kt p Z s m meth c y bytes maxL ret) {i : Int} {v : Int32} (hd : decode bytes pc = .ok (.bipush i, 2)) (hv : (Int8.ofInt i).toInt32 = v) (hq : pc + 2 = q) (h : Go p e below P T (mkF m q Ls (.int v :: S))) : Go p e below P T (mkF m pc Ls S) := by
  subst hq hv; exact Go.by_ (fun t k => XS.bipush X.here K.x rfl (K.d hd) k) h
theorem g_sipush (X : Stand p l e R s m args below meth c T locs cells slots) (K : Kt p Z s m meth c y bytes maxL ret) {i : Int} {v : Int32} (hd : decode bytes pc = .ok (.sipush i, 3)) (hv : (Int16.ofInt i).toInt32 = v) (hq : pc + 3 = q) (h : Go p e below P T (mkF m q Ls (.int v :: S))) : Go p e below P T (mkF m pc Ls S) := by
  subst hq hv; exact Go.by_ (fun t k => XS.sipush X.here K.x rfl (K.d hd) k) h
theorem g_null (X : Stand p l e R s m args below meth c T locs cells slots) (K : Kt p Z s m meth c y bytes maxL ret) (hd : decode bytes pc = .ok (.aconst_null, 1)) (hq : pc + 1 = q) (h : Go p e below P T (mkF m q Ls (.null :: S))) : Go p e below P T (mkF m pc Ls S) := by
  subst hq; exact Go.by_ (fun t k => XS.aconstNull X.here K.x rfl (K.d hd) k) h
theorem g_iadd (X : Stand p l e R s m args below meth c T locs cells slots) (K : Kt p Z s m meth c y bytes maxL ret) {x y z : Int32} (hd : decode bytes pc = .ok (.iadd, 1)) (hz : x + y = z) (hq : pc + 1 = q) (h : Go p e below P T (mkF m q Ls (.int z :: S))) : Go p e below P T (mkF m pc Ls (.int y :: .int x :: S)) := by
  subst hq hz; exact Go.by_ (fun t k => XS.iadd X.here K.x rfl (K.d hd) rfl k) h
theorem g_isub (X : Stand p l e R s m args below meth c T locs cells slots) (K : Kt p Z s m meth c y bytes maxL ret) {x y z : Int32} (hd : decode bytes pc = .ok (.isub, 1)) (hz : x - y = z) (hq : pc + 1 = q) (h : Go p e below P T (mkF m q Ls (.int z :: S))) : Go p e below P T (mkF m pc Ls (.int y :: .int x :: S)) := by
  subst hq hz; exact Go.by_ (fun t k => XS.isub X.here K.x rfl (K.d hd) rfl k) h
theorem g_imul (X : Stand p l e R s m args below meth c T locs cells slots) (K : Kt p Z s m meth c y bytes maxL ret) {x y z : Int32} (hd : decode bytes pc = .ok (.imul, 1)) (hz : x * y = z) (hq : pc + 1 = q) (h : Go p e below P T (mkF m q Ls (.int z :: S))) : Go p e below P T (mkF m pc Ls (.int y :: .int x :: S)) := by
  subst hq hz; exact Go.by_ (fun t k => XS.imul X.here K.x rfl (K.d hd) rfl k) h
theorem g_iand (X : Stand p l e R s m args below meth c T locs cells slots) (K : Kt p Z s m meth c y bytes maxL ret) {x y z : Int32} (hd : decode bytes pc = .ok (.iand, 1)) (hz : x &&& y = z) (hq : pc + 1 = q) (h : Go p e below P T (mkF m q Ls (.int z :: S))) : Go p e below P T (mkF m pc Ls (.int y :: .int x :: S)) := by
  subst hq hz; exact Go.by_ (fun t k => XS.iand X.here K.x rfl (K.d hd) rfl k) h
theorem g_ior (X : Stand p l e R s m args below meth c T locs cells slots) (K : Kt p Z s m meth c y bytes maxL ret) {x y z : Int32} (hd : decode bytes pc = .ok (.ior, 1)) (hz : x ||| y = z) (hq : pc + 1 = q) (h : Go p e below P T (mkF m q Ls (.int z :: S))) : Go p e below P T (mkF m pc Ls (.int y :: .int x :: S)) := by
  subst hq hz; exact Go.by_ (fun t k => XS.ior X.here K.x rfl (K.d hd) rfl k) h
theorem g_ixor (X : Stand p l e R s m args below meth c T locs cells slots) (K : Kt p Z s m meth c y bytes maxL ret) {x y z : Int32} (hd : decode bytes pc = .ok (.ixor, 1)) (hz : x ^^^ y = z) (hq : pc + 1 = q) (h : Go p e below P T (mkF m q Ls (.int z :: S))) : Go p e below P T (mkF m pc Ls (.int y :: .int x :: S)) := by
  subst hq hz; exact Go.by_ (fun t k => XS.ixor X.here K.x rfl (K.d hd) rfl k) h
theorem g_ishl (X : Stand p l e R s m args below meth c T locs cells slots) (K : Kt p Z s m meth c y bytes maxL ret) {x y z : Int32} (hd : decode bytes pc = .ok (.ishl, 1)) (hz : x <<< (y &&& 31) = z) (hq : pc + 1 = q) (h : Go p e below P T (mkF m q Ls (.int z :: S))) : Go p e below P T (mkF m pc Ls (.int y :: .int x :: S)) := by
  subst hq hz; exact Go.by_ (fun t k => XS.ishl X.here K.x rfl (K.d hd) rfl k) h
theorem g_ishr (X : Stand p l e R s m args below meth c T locs cells slots) (K : Kt p Z s m meth c y bytes maxL ret) {x y z : Int32} (hd : decode bytes pc = .ok (.ishr, 1)) (hz : x >>> (y &&& 31) = z) (hq : pc + 1 = q) (h : Go p e below P T (mkF m q Ls (.int z :: S))) : Go p e below P T (mkF m pc Ls (.int y :: .int x :: S)) := by
  subst hq hz; exact Go.by_ (fun t k => XS.ishr X.here K.x rfl (K.d hd) rfl k) h
theorem g_iushr (X : Stand p l e R s m args below meth c T locs cells slots) (K : Kt p Z s m meth c y bytes maxL ret) {x y z : Int32} (hd : decode bytes pc = .ok (.iushr, 1)) (hz : (x.toUInt32 >>> (y &&& 31).toUInt32).toInt32 = z) (hq : pc + 1 = q) (h : Go p e below P T (mkF m q Ls (.int z :: S))) : Go p e below P T (mkF m pc Ls (.int y :: .int x :: S)) := by
  subst hq hz; exact Go.by_ (fun t k => XS.iushr X.here K.x rfl (K.d hd) rfl k) h
theorem g_irem (X : Stand p l e R s m args below meth c T locs cells slots) (K : Kt p Z s m meth c y bytes maxL ret) {x y z : Int32} (hd : decode bytes pc = .ok (.irem, 1)) (hy : y ≠ 0) (hz : x % y = z) (hq : pc + 1 = q) (h : Go p e below P T (mkF m q Ls (.int z :: S))) : Go p e below P T (mkF m pc Ls (.int y :: .int x :: S)) := by
  subst hq hz; exact Go.by_ (fun t k => iremM X K.x rfl (K.d hd) rfl hy k) h
theorem g_idiv (X : Stand p l e R s m args below meth c T locs cells slots) (K : Kt p Z s m meth c y bytes maxL ret) {x y z : Int32} (hd : decode bytes pc = .ok (.idiv, 1)) (hy : y ≠ 0) (hz : x / y = z) (hq : pc + 1 = q) (h : Go p e below P T (mkF m q Ls (.int z :: S))) : Go p e below P T (mkF m pc Ls (.int y :: .int x :: S)) := by
  subst hq hz; exact Go.by_ (fun t k => XS.idiv X.here K.x rfl (K.d hd) rfl hy k) h
theorem g_ineg (X : Stand p l e R s m args below meth c T locs cells slots) (K : Kt p Z s m meth c y bytes maxL ret) {x z : Int32} (hd : decode bytes pc = .ok (.ineg, 1)) (hz : -x = z) (hq : pc + 1 = q) (h : Go p e below P T (mkF m q Ls (.int z :: S))) : Go p e below P T (mkF m pc Ls (.int x :: S)) := by
  subst hq hz; exact Go.by_ (fun t k => XS.ineg X.here K.x rfl (K.d hd) rfl k) h
theorem g_i2b (X : Stand p l e R s m args below meth c T locs cells slots) (K : Kt p Z s m meth c y bytes maxL ret) {x z : Int32} (hd : decode bytes pc = .ok (.i2b, 1)) (hz : x.toInt8.toInt32 = z) (hq : pc + 1 = q) (h : Go p e below P T (mkF m q Ls (.int z :: S))) : Go p e below P T (mkF m pc Ls (.int x :: S)) := by
  subst hq hz; exact Go.by_ (fun t k => XS.i2b X.here K.x rfl (K.d hd) rfl k) h
theorem g_i2c (X : Stand p l e R s m args below meth c T locs cells slots) (K : Kt p Z s m meth c y bytes maxL ret) {x z : Int32} (hd : decode bytes pc = .ok (.i2c, 1)) (hz : x.toUInt32.toUInt16.toUInt32.toInt32 = z) (hq : pc + 1 = q) (h : Go p e below P T (mkF m q Ls (.int z :: S))) : Go p e below P T (mkF m pc Ls (.int x :: S)) := by
  subst hq hz; exact Go.by_ (fun t k => XS.i2c X.here K.x rfl (K.d hd) rfl k) h
theorem g_i2l (X : Stand p l e R s m args below meth c T locs cells slots) (K : Kt p Z s m meth c y bytes maxL ret) {x : Int32} {z : Int64} (hd : decode bytes pc = .ok (.i2l, 1)) (hz : x.toInt64 = z) (hq : pc + 1 = q) (h : Go p e below P T (mkF m q Ls (.long z :: S))) : Go p e below P T (mkF m pc Ls (.int x :: S)) := by
  subst hq hz; exact Go.by_ (fun t k => XS.i2l X.here K.x rfl (K.d hd) rfl k) h
theorem g_lconst (X : Stand p l e R s m args below meth c T locs cells slots) (K : Kt p Z s m meth c y bytes maxL ret) {k : Fin 2} {v : Int64} (hd : decode bytes pc = .ok (.lconst k, 1)) (hv : Int64.ofInt k.val = v) (hq : pc + 1 = q) (h : Go p e below P T (mkF m q Ls (.long v :: S))) : Go p e below P T (mkF m pc Ls S) := by
  subst hq hv; exact Go.by_ (fun t k => XS.lconst X.here K.x rfl (K.d hd) k) h
theorem g_lsub (X : Stand p l e R s m args below meth c T locs cells slots) (K : Kt p Z s m meth c y bytes maxL ret) {x y z : Int64} (hd : decode bytes pc = .ok (.lsub, 1)) (hz : x - y = z) (hq : pc + 1 = q) (h : Go p e below P T (mkF m q Ls (.long z :: S))) : Go p e below P T (mkF m pc Ls (.long y :: .long x :: S)) := by
  subst hq hz; exact Go.by_ (fun t k => XS.lsub X.here K.x rfl (K.d hd) rfl k) h
theorem g_lshl (X : Stand p l e R s m args below meth c T locs cells slots) (K : Kt p Z s m meth c y bytes maxL ret) {x z : Int64} {y : Int32} (hd : decode bytes pc = .ok (.lshl, 1)) (hz : x <<< (y &&& 0x3f).toInt64 = z) (hq : pc + 1 = q) (h : Go p e below P T (mkF m q Ls (.long z :: S))) : Go p e below P T (mkF m pc Ls (.int y :: .long x :: S)) := by
  subst hq hz; exact Go.by_ (fun t k => XS.lshl X.here K.x rfl (K.d hd) rfl k) h
theorem g_lcmp (X : Stand p l e R s m args below meth c T locs cells slots) (K : Kt p Z s m meth c y bytes maxL ret) {x y : Int64} {z : Int32} (hd : decode bytes pc = .ok (.lcmp, 1)) (hz : lcmpW x y = z) (hq : pc + 1 = q) (h : Go p e below P T (mkF m q Ls (.int z :: S))) : Go p e below P T (mkF m pc Ls (.long y :: .long x :: S)) := by
  subst hq hz; exact Go.by_ (fun t k => XS.lcmp X.here K.x rfl (K.d hd) rfl k) h
theorem g_iinc (X : Stand p l e R s m args below meth c T locs cells slots) (K : Kt p Z s m meth c y bytes maxL ret) {k : Nat} {cst : Int} {x z : Int32} {L' : Array Slot} (hd : decode bytes pc = .ok (.iinc k cst, 3)) (hl : Ls[k]? = some (.val (.int x))) (hz : x + Int32.ofInt cst = z) (hl' : storeLocals Ls k (.int z) = some L') (hq : pc + 3 = q) (h : Go p e below P T (mkF m q L' S)) : Go p e below P T (mkF m pc Ls S) := by
  subst hq hz; exact Go.by_ (fun t k => XS.iinc X.here K.x rfl (K.d hd) hl hl' k) h
theorem g_dup (X : Stand p l e R s m args below meth c T locs cells slots) (K : Kt p Z s m meth c y bytes maxL ret) {x : Value} (hd : decode bytes pc = .ok (.dup, 1)) (hc : x.category = 1) (hq : pc + 1 = q) (h : Go p e below P T (mkF m q Ls (x :: x :: S))) : Go p e below P T (mkF m pc Ls (x :: S)) := by
  subst hq; exact Go.by_ (fun t k => XS.dup X.here K.x rfl (K.d hd) rfl hc k) h
theorem g_dupX1 (X : Stand p l e R s m args below meth c T locs cells slots) (K : Kt p Z s m meth c y bytes maxL ret) {x y : Value} (hd : decode bytes pc = .ok (.dup_x1, 1)) (hc : x.category = 1) (hc' : y.category = 1) (hq : pc + 1 = q) (h : Go p e below P T (mkF m q Ls (x :: y :: x :: S))) : Go p e below P T (mkF m pc Ls (x :: y :: S)) := by
  subst hq; exact Go.by_ (fun t k => XS.dupX1 X.here K.x rfl (K.d hd) rfl hc hc' k) h
theorem g_dup2 (X : Stand p l e R s m args below meth c T locs cells slots) (K : Kt p Z s m meth c y bytes maxL ret) {x y : Value} (hd : decode bytes pc = .ok (.dup2, 1)) (hc : x.category = 1) (hc' : y.category = 1) (hq : pc + 1 = q) (h : Go p e below P T (mkF m q Ls (x :: y :: x :: y :: S))) : Go p e below P T (mkF m pc Ls (x :: y :: S)) := by
  subst hq; exact Go.by_ (fun t k => XT.dup2 X.here K.x rfl (K.d hd) rfl hc hc' k) h
theorem g_pop (X : Stand p l e R s m args below meth c T locs cells slots) (K : Kt p Z s m meth c y bytes maxL ret) {x : Value} (hd : decode bytes pc = .ok (.pop, 1)) (hc : x.category = 1) (hq : pc + 1 = q) (h : Go p e below P T (mkF m q Ls S)) : Go p e below P T (mkF m pc Ls (x :: S)) := by
  subst hq; exact Go.by_ (fun t k => XS.pop X.here K.x rfl (K.d hd) rfl hc k) h
theorem g_goto (X : Stand p l e R s m args below meth c T locs cells slots) (K : Kt p Z s m meth c y bytes maxL ret) {o : Int} (hd : decode bytes pc = .ok (.goto o, 3)) (ho : 0 ≤ (pc : Int) + o) (hq : ((pc : Int) + o).toNat = q) (h : Go p e below P T (mkF m q Ls S)) : Go p e below P T (mkF m pc Ls S) :=
  Go.by_ (fun t k => XS.goto X.here K.x rfl rfl (K.d hd) ho hq k) h
theorem g_ifY (X : Stand p l e R s m args below meth c T locs cells slots) (K : Kt p Z s m meth c y bytes maxL ret) {cd : ClassFile.Cond} {x : Int32} {o : Int} (hd : decode bytes pc = .ok (.ifCond cd o, 3)) (hc : if_icmp.holds cd x 0 = true) (ho : 0 ≤ (pc : Int) + o) (hq : ((pc : Int) + o).toNat = q) (h : Go p e below P T (mkF m q Ls S)) : Go p e below P T (mkF m pc Ls (.int x :: S)) :=
  Go.by_ (fun t k => XS.ifYes X.here K.x rfl rfl (K.d hd) rfl ((if0 _ _).trans hc) ho hq k) h
theorem g_ifN (X : Stand p l e R s m args below meth c T locs cells slots) (K : Kt p Z s m meth c y bytes maxL ret) {cd : ClassFile.Cond} {x : Int32} {o : Int} (hd : decode bytes pc = .ok (.ifCond cd o, 3)) (hc : if_icmp.holds cd x 0 = false) (hq : pc + 3 = q) (h : Go p e below P T (mkF m q Ls S)) : Go p e below P T (mkF m pc Ls (.int x :: S)) := by
  subst hq; exact Go.by_ (fun t k => XS.ifNo X.here K.x rfl (K.d hd) rfl ((if0 _ _).trans hc) k) h
theorem g_icY (X : Stand p l e R s m args below meth c T locs cells slots) (K : Kt p Z s m meth c y bytes maxL ret) {cd : ClassFile.Cond} {x y : Int32} {o : Int} (hd : decode bytes pc = .ok (.if_icmp cd o, 3)) (hc : if_icmp.holds cd x y = true) (ho : 0 ≤ (pc : Int) + o) (hq : ((pc : Int) + o).toNat = q) (h : Go p e below P T (mkF m q Ls S)) : Go p e below P T (mkF m pc Ls (.int y :: .int x :: S)) :=
  Go.by_ (fun t k => XS.icmpYes X.here K.x rfl rfl (K.d hd) rfl hc ho hq k) h
theorem g_icN (X : Stand p l e R s m args below meth c T locs cells slots) (K : Kt p Z s m meth c y bytes maxL ret) {cd : ClassFile.Cond} {x y : Int32} {o : Int} (hd : decode bytes pc = .ok (.if_icmp cd o, 3)) (hc : if_icmp.holds cd x y = false) (hq : pc + 3 = q) (h : Go p e below P T (mkF m q Ls S)) : Go p e below P T (mkF m pc Ls (.int y :: .int x :: S)) := by
  subst hq; exact Go.by_ (fun t k => XS.icmpNo X.here K.x rfl (K.d hd) rfl hc k) h
theorem g_ac (X : Stand p l e R s m args below meth c T locs cells slots) (K : Kt p Z s m meth c y bytes maxL ret) {cd : ACond} {x y : Value} {o : Int} {same : Bool} (hd : decode bytes pc = .ok (.if_acmp cd o, 3)) (h1 : x.isRef = true) (h2 : y.isRef = true) (hs : decide (x = y) = same) (ho : 0 ≤ (pc : Int) + o) (hq : q = if acV cd same = true then ((pc : Int) + o).toNat else pc + 3) (h : Go p e below P T (mkF m q Ls S)) : Go p e below P T (mkF m pc Ls (y :: x :: S)) :=
  Go.by_ (fun t k => acmp X K.x rfl h1 h2 rfl (K.d hd) rfl hs ho hq k) h
theorem g_nullY (X : Stand p l e R s m args below meth c T locs cells slots) (K : Kt p Z s m meth c y bytes maxL ret) {o : Int} (hd : decode bytes pc = .ok (.ifnull o, 3)) (ho : 0 ≤ (pc : Int) + o) (hq : ((pc : Int) + o).toNat = q) (h : Go p e below P T (mkF m q Ls S)) : Go p e below P T (mkF m pc Ls (.null :: S)) :=
  Go.by_ (fun t k => XS.ifnullYes X.here K.x rfl rfl (K.d hd) rfl ho hq k) h
theorem g_nullN (X : Stand p l e R s m args below meth c T locs cells slots) (K : Kt p Z s m meth c y bytes maxL ret) {o : Int} {b : Addr} (hd : decode bytes pc = .ok (.ifnull o, 3)) (hq : pc + 3 = q) (h : Go p e below P T (mkF m q Ls S)) : Go p e below P T (mkF m pc Ls (.ref b :: S)) := by
  subst hq; exact Go.by_ (fun t k => XS.ifnullNo X.here K.x rfl (K.d hd) rfl k) h
theorem g_nonnullY (X : Stand p l e R s m args below meth c T locs cells slots) (K : Kt p Z s m meth c y bytes maxL ret) {o : Int} {b : Addr} (hd : decode bytes pc = .ok (.ifnonnull o, 3)) (ho : 0 ≤ (pc : Int) + o) (hq : ((pc : Int) + o).toNat = q) (h : Go p e below P T (mkF m q Ls S)) : Go p e below P T (mkF m pc Ls (.ref b :: S)) :=
  Go.by_ (fun t k => XS.ifnonnullYes X.here K.x rfl rfl (K.d hd) rfl ho hq k) h
theorem g_nonnullN (X : Stand p l e R s m args below meth c T locs cells slots) (K : Kt p Z s m meth c y bytes maxL ret) {o : Int} (hd : decode bytes pc = .ok (.ifnonnull o, 3)) (hq : pc + 3 = q) (h : Go p e below P T (mkF m q Ls S)) : Go p e below P T (mkF m pc Ls (.null :: S)) := by
  subst hq; exact Go.by_ (fun t k => XS.ifnonnullNo X.here K.x rfl (K.d hd) rfl k) h
theorem g_ldc (X : Stand p l e R s m args below meth c T locs cells slots) (K : Kt p Z s m meth c y bytes maxL ret) {index : Nat} {v : Int32} (w : (Jvm.Cond.constant y.cls index v).before a0 Z = true) (hd : decode bytes pc = .ok (.ldc index, 2)) (hq : pc + 2 = q) (h : Go p e below P T (mkF m q Ls (.int v :: S))) : Go p e below P T (mkF m pc Ls S) := by
  subst hq; exact Go.by_ (fun t k => X.ldcInt K.x K.own (mvT K.z w) (g := mkF m pc Ls S) rfl (K.d hd) _ k) h
theorem g_ldc2 (X : Stand p l e R s m args below meth c T locs cells slots) (K : Kt p Z s m meth c y bytes maxL ret) {index : Nat} {v : Int64} (w : (Jvm.Cond.constantLong y.cls index v).before a0 Z = true) (hd : decode bytes pc = .ok (.ldc2_w index, 3)) (hq : pc + 3 = q) (h : Go p e below P T (mkF m q Ls (.long v :: S))) : Go p e below P T (mkF m pc Ls S) := by
  subst hq; exact Go.by_ (fun t k => X.ldc2Long K.x K.own (mvT K.z w) (g := mkF m pc Ls S) rfl (K.d hd) _ k) h
theorem g_tswIn (X : Stand p l e R s m args below meth c T locs cells slots) (K : Kt p Z s m meth c y bytes maxL ret) {dflt low high : Int} {offs : Array Int} {len : Nat} {o : Int} {i : Int32} (hd : decode bytes pc = .ok (.tableswitch dflt low high offs, len)) (hin : ¬ (i.toInt < low ∨ i.toInt > high)) (hoff : offs[(i.toInt - low).toNat]? = some o) (ho : 0 ≤ (pc : Int) + o) (hq : ((pc : Int) + o).toNat = q) (h : Go p e below P T (mkF m q Ls S)) : Go p e below P T (mkF m pc Ls (.int i :: S)) :=
  Go.by_ (fun t k => XS.tswIn X.here K.x rfl rfl (K.d hd) rfl hin hoff ho hq k) h
theorem g_tswOut (X : Stand p l e R s m args below meth c T locs cells slots) (K : Kt p Z s m meth c y bytes maxL ret) {dflt low high : Int} {offs : Array Int} {len : Nat} {i : Int32} (hd : decode bytes pc = .ok (.tableswitch dflt low high offs, len)) (hout : i.toInt < low ∨ i.toInt > high) (ho : 0 ≤ (pc : Int) + dflt) (hq : ((pc : Int) + dflt).toNat = q) (h : Go p e below P T (mkF m q Ls S)) : Go p e below P T (mkF m pc Ls (.int i :: S)) :=
  Go.by_ (fun t k => XS.tswOut X.here K.x rfl rfl (K.d hd) rfl hout ho hq k) h
theorem g_dupX2 (X : Stand p l e R s m args below meth c T locs cells slots) (K : Kt p Z s m meth c y bytes maxL ret) {x y1 z : Value} (hd : decode bytes pc = .ok (.dup_x2, 1)) (hc : x.category = 1) (hc1 : y1.category = 1) (hc2 : z.category = 1) (hq : pc + 1 = q) (h : Go p e below P T (mkF m q Ls (x :: y1 :: z :: x :: S))) : Go p e below P T (mkF m pc Ls (x :: y1 :: z :: S)) := by
  subst hq
  refine Go.by_ (fun t k => ?_) h
  have hx := K.x
  have hd' := K.d hd
  jvm_step X.here [X.here.top, hx, hd', hc, hc1, hc2]
  exact k
end Plain
/-! steps that look at the heap -/
section Heap
theorem g_gets {index : Nat} {C n d : String} {v : Value} (X : Stand p l e R s m args below meth c T locs cells slots) (K : Kt p Z s m meth c y bytes maxL ret) (w : (Jvm.Cond.fieldLink y.cls index C n d).before a0 Z = true) (eT : T.heap = h) (F : Sta Z h C n d v) (hd : decode bytes pc = .ok (.getstatic index, 3)) (hq : pc + 3 = q)
    (k : ∀ T', Stand p l e R s m args below meth c T' locs cells slots → T'.heap = h → Go p e below P T' (mkF m q Ls (v :: S))) : Go p e below P T (mkF m pc Ls S) := by
  subst hq
  obtain ⟨T1, X1, e1, st⟩ := getS2 X K.x K.z (host := "") K.own (Or.inl w) Via.refl eT F (g := mkF m pc Ls S) rfl (K.d hd)
  exact Go.by_ st (k T1 X1 e1)
theorem g_getf {index : Nat} {C O n d : String} {a : Addr} {v : Value} (X : Stand p l e R s m args below meth c T locs cells slots) (K : Kt p Z s m meth c y bytes maxL ret) (w : (Jvm.Cond.fieldLink y.cls index C n d).before a0 Z = true) (via : Via Z C O n d) (eT : T.heap = h) (F : Fld Z h a O n d v) (hd : decode bytes pc = .ok (.getfield index, 3)) (hq : pc + 3 = q)
    (k : ∀ T', Stand p l e R s m args below meth c T' locs cells slots → T'.heap = h → Go p e below P T' (mkF m q Ls (v :: S))) : Go p e below P T (mkF m pc Ls (.ref a :: S)) := by
  subst hq
  obtain ⟨T1, X1, e1, st⟩ := getF X K.x K.z K.own (host := "") (Or.inl w) via eT F (g := mkF m pc Ls (.ref a :: S)) rfl rfl (K.d hd)
  exact Go.by_ st (k T1 X1 e1)
theorem g_putf {index kk : Nat} {C O n d Cl : String} {a : Addr} {v old : Value} {ty : FieldType} (X : Stand p l e R s m args below meth c T locs cells slots) (K : Kt p Z s m meth c y bytes maxL ret) (w : (Jvm.Cond.fieldLink y.cls index C n d).before a0 Z = true) (via : Via Z C O n d) (eT : T.heap = h) (F : Fld Z h a O n d old) (E : Exa Z h a Cl) (L : (Jvm.Cond.lays Cl O n d).before a0 Z = true ∨ ((Jvm.Cond.laysFinal Cl O n d).before a0 Z = true ∧ y.cls = O ∧ y.name = "<init>")) (wi : (Jvm.Cond.instantiable Cl kk).before a0 Z = true)
    (hty : parseFieldDescriptor d = some ty) (hn : narrow ty v = v) (hf : fits ty v = true) (hd : decode bytes pc = .ok (.putfield index, 3)) (hq : pc + 3 = q)
    (k : ∀ T' h', Stand p l e R s m args below meth c T' (locs ++ [⟨a, Jvm.RoadKit.slotOf Z O n d⟩]) cells slots → T'.heap = h' → Wr h h' a (Jvm.RoadKit.slotOf Z O n d) v → Fld Z h' a O n d v → Go p e below P T' (mkF m q Ls S)) : Go p e below P T (mkF m pc Ls (v :: .ref a :: S)) := by
  subst hq
  obtain ⟨T1, h1, X1, e1, W1, st⟩ := putF X K.x K.z K.own (host := "") (Or.inl w) via eT F E (L.imp id fun q => ⟨q.1, q.2.1, K.nm.trans q.2.2⟩) wi hty hn hf (g := mkF m pc Ls (v :: .ref a :: S)) rfl rfl (K.d hd)
  exact Go.by_ st (k T1 h1 X1 e1 W1 (F.same W1))
theorem g_new {index n : Nat} {C : String} (X : Stand p l e R s m args below meth c T locs cells slots) (K : Kt p Z s m meth c y bytes maxL ret) (w : (Jvm.Cond.classLink y.cls index C).before a0 Z = true) (wi : (Jvm.Cond.instantiable C n).before a0 Z = true) (wz : (Jvm.Cond.initialized C).before a0 Z = true) (eT : T.heap = h) (hd : decode bytes pc = .ok (.new index, 3)) (hc : cells + 1 ≤ R.cells) (hl : slots + n ≤ R.slots) (hq : pc + 3 = q)
    (k : ∀ (T' : State) (h' : Heap) (a : Addr), Stand p l e R s m args below meth c T' locs (cells + 1) (slots + n) → T'.heap = h' → Ext h h' → h.size = a → Exa Z h' a C → (∀ {O nm d : String} {ty : FieldType}, Laid Z a0 C O nm d → parseFieldDescriptor d = some ty → Fld Z h' a O nm d (defaultValue ty)) → Go p e below P T' (mkF m q Ls (.ref a :: S))) : Go p e below P T (mkF m pc Ls S) := by
  subst hq
  obtain ⟨T1, h1, X1, e1, E1, A1, D1, -, st⟩ := newO X K.x K.z K.own w wi wz eT (g := mkF m pc Ls S) rfl (K.d hd) hc hl
  exact Go.by_ st (k T1 h1 _ X1 e1 E1 rfl A1 D1)
theorem g_init {index : Nat} {a : Addr} {W : Nat} (X : Stand p l e R s m args below meth c T locs cells slots) (K : Kt p Z s m meth c y bytes maxL ret) (w1 : (Jvm.Cond.methodLink y.cls index Lib.objectInit).before a0 Z = true) (w2 : (Jvm.Cond.instanceMethod Lib.objectInit).before a0 Z = true) (w3 : (Jvm.Cond.code Lib.objectInit ⟨#[0xb1]⟩ 1 none).before a0 Z = true) (eT : T.heap = h) (hsz : Ls.size = maxL) (hd : decode bytes pc = .ok (.invokespecial index, 3)) (hf : 1 ≤ R.frames) (hW : (S.map fun v => v.category).sum ≤ W) (hl : W + 12 ≤ R.locals) (hq : pc + 3 = q)
    (k : ∀ T', Stand p l e R s m args below meth c T' locs cells slots → T'.heap = h → Go p e below P T' (mkF m q Ls S)) : Go p e below P T (mkF m pc Ls (.ref a :: S)) := by
  subst hq
  obtain ⟨T1, X1, e1, st⟩ := initO X K.x K.z K.own w1 w2 w3 eT (g := mkF m pc Ls (.ref a :: S)) rfl (by rw [K.ml]; exact hsz) rfl (K.d hd) hf (W := W) (by show 2 * 0 + _ ≤ _; omega) hl
  exact Go.by_ st (k T1 X1 e1)
theorem g_castN {index : Nat} (X : Stand p l e R s m args below meth c T locs cells slots) (K : Kt p Z s m meth c y bytes maxL ret) (hd : decode bytes pc = .ok (.checkcast index, 3)) (hq : pc + 3 = q) (k : Go p e below P T (mkF m q Ls (.null :: S))) : Go p e below P T (mkF m pc Ls (.null :: S)) := by
  subst hq
  exact Go.by_ (fun t k => X.checkcastNull K.x (g := mkF m pc Ls (.null :: S)) rfl rfl (K.d hd) _ k) k
theorem g_cast {index : Nat} {C : String} {a : Addr} (X : Stand p l e R s m args below meth c T locs cells slots) (K : Kt p Z s m meth c y bytes maxL ret) (w : (Jvm.Cond.classLink y.cls index C).before a0 Z = true) (eT : T.heap = h) (F : Ins Z h a C true) (hd : decode bytes pc = .ok (.checkcast index, 3)) (hq : pc + 3 = q)
    (k : ∀ T', Stand p l e R s m args below meth c T' locs cells slots → T'.heap = h → Go p e below P T' (mkF m q Ls (.ref a :: S))) : Go p e below P T (mkF m pc Ls (.ref a :: S)) := by
  subst hq
  obtain ⟨T1, X1, e1, st⟩ := castY X K.x K.z K.own w eT F (g := mkF m pc Ls (.ref a :: S)) rfl rfl (K.d hd)
  exact Go.by_ st (k T1 X1 e1)
theorem g_lambda {index : Nat} {σ : Lambda.Shape} {W : Nat} (X : Stand p l e R s m args below meth c T locs cells slots) (K : Kt p Z s m meth c y bytes maxL ret) (w : (Jvm.Cond.lambdaSite y pc index σ).before a0 Z = true) (hσ : σ.captured = []) (hsz : Ls.size = maxL) (hd : decode bytes pc = .ok (.invokedynamic index, 5)) (hW : (S.map fun v => v.category).sum ≤ W) (hl : W + 3072 ≤ R.locals) (hq : pc + 5 = q)
    (k : ∀ a : Addr, Go p e below P T (mkF m q Ls (.ref a :: S))) : Go p e below P T (mkF m pc Ls S) := by
  subst hq
  obtain ⟨cK, one, hat⟩ := Cond.lambdaSite_spec w
  obtain ⟨m', kS, cfS, i0, p0, lk, hm', hkS, hcfS, -, -, hfind, hmade, hcan, hlk⟩ := State.lambdaAt?_spec hat
  have hn : Z.methodNamed? y = some m := by
    have q := State.methodNamed?_setVm (s := Z) K.z.alike y
    have q2 : (Z.setVm s.vm).methodNamed? y = s.methodNamed? y := rfl
    rw [← q, q2]; exact K.named
  cases hn.symm.trans hm'
  rcases hlk with ⟨a, cell, rfl, -⟩ | ⟨-, -, h⟩
  · obtain ⟨k', hk', he⟩ := K.z.alike.2.2 _ _ hkS
    refine Go.by_ (fun t kk => X.lambdaConstant K.x (g := mkF m pc Ls S) rfl (by rw [K.ml]; exact hsz) (K.d hd) hk' (by rw [he]; exact hfind) (by rw [X.admits.platform]; show 2 * 0 + (S.map fun v => v.category).sum + 3072 ≤ _; omega) kk) (k a)
  · exact absurd hσ h
/-! arrays -/
theorem g_len {a : Addr} {kA : ClassId} {ty : FieldType} {n : Int32} {vs : List Value} {dv : Value} (X : Stand p l e R s m args below meth c T locs cells slots) (K : Kt p Z s m meth c y bytes maxL ret) (eT : T.heap = h) (A : Arv Z h a kA ty n vs dv) (hd : decode bytes pc = .ok (.arraylength, 1)) (hq : pc + 1 = q) (k : Go p e below P T (mkF m q Ls (.int n :: S))) : Go p e below P T (mkF m pc Ls (.ref a :: S)) := by
  subst hq
  obtain ⟨cl, Ar, -, Sz, Nn, -, -⟩ := A
  refine Go.by_ (fun t k => X.arraylength K.x (by rw [eT]; exact Ar.1) (State.isArrayOf_alike K.z.alike Ar.2.1) (g := mkF m pc Ls (.ref a :: S)) rfl rfl (K.d hd) _ k) ?_
  rw [len_of Sz Nn]; exact k
theorem arv_at {a : Addr} {kA : ClassId} {ty : FieldType} {n j : Int32} {vs : List Value} {dv v : Value} (A : Arv Z h a kA ty n vs dv) (hj : ¬ j < 0 ∧ j < n) (hv : vs.getD j.toNatClampNeg dv = v) :
    ∃ cl, Arr Z h a cl ty ∧ ¬ (j < 0 ∨ cl.slots.size ≤ j.toNatClampNeg) ∧ cl.slots[j.toNatClampNeg]? = some v := by
  obtain ⟨cl, Ar, -, Sz, Nn, H, -⟩ := A
  have hin := inb_of Sz hj
  exact ⟨cl, Ar, hin, H.at hin hv⟩
theorem g_iald {a : Addr} {kA : ClassId} {n j : Int32} {vs : List Value} {dv v : Value} (X : Stand p l e R s m args below meth c T locs cells slots) (K : Kt p Z s m meth c y bytes maxL ret) (eT : T.heap = h) (A : Arv Z h a kA .int n vs dv) (hj : ¬ j < 0 ∧ j < n) (hv : vs.getD j.toNatClampNeg dv = v) (hd : decode bytes pc = .ok (.iaload, 1)) (hq : pc + 1 = q) (k : Go p e below P T (mkF m q Ls (v :: S))) : Go p e below P T (mkF m pc Ls (.int j :: .ref a :: S)) := by
  subst hq
  obtain ⟨cl, Ar, hin, hat⟩ := arv_at A hj hv
  exact Go.by_ (fun t k => X.iaload K.x (by rw [eT]; exact Ar.1) (State.isArrayOf_alike K.z.alike Ar.2.1) Ar.2.2 hin hat (g := mkF m pc Ls (.int j :: .ref a :: S)) rfl rfl (K.d hd) _ k) k
theorem g_bald {a : Addr} {kA : ClassId} {n j : Int32} {vs : List Value} {dv v : Value} (X : Stand p l e R s m args below meth c T locs cells slots) (K : Kt p Z s m meth c y bytes maxL ret) (eT : T.heap = h) (A : Arv Z h a kA .byte n vs dv) (hj : ¬ j < 0 ∧ j < n) (hv : vs.getD j.toNatClampNeg dv = v) (hd : decode bytes pc = .ok (.baload, 1)) (hq : pc + 1 = q) (k : Go p e below P T (mkF m q Ls (v :: S))) : Go p e below P T (mkF m pc Ls (.int j :: .ref a :: S)) := by
  subst hq
  obtain ⟨cl, Ar, hin, hat⟩ := arv_at A hj hv
  exact Go.by_ (fun t k => X.baloadBytes K.x (by rw [eT]; exact Ar.1) (State.isArrayOf_alike K.z.alike Ar.2.1) Ar.2.2 hin hat (g := mkF m pc Ls (.int j :: .ref a :: S)) rfl rfl (K.d hd) _ k) k
theorem g_zald {a : Addr} {kA : ClassId} {n j : Int32} {vs : List Value} {dv v : Value} (X : Stand p l e R s m args below meth c T locs cells slots) (K : Kt p Z s m meth c y bytes maxL ret) (eT : T.heap = h) (A : Arv Z h a kA .boolean n vs dv) (hj : ¬ j < 0 ∧ j < n) (hv : vs.getD j.toNatClampNeg dv = v) (hd : decode bytes pc = .ok (.baload, 1)) (hq : pc + 1 = q) (k : Go p e below P T (mkF m q Ls (v :: S))) : Go p e below P T (mkF m pc Ls (.int j :: .ref a :: S)) := by
  subst hq
  obtain ⟨cl, Ar, hin, hat⟩ := arv_at A hj hv
  exact Go.by_ (fun t k => X.baloadBooleans K.x (by rw [eT]; exact Ar.1) (State.isArrayOf_alike K.z.alike Ar.2.1) Ar.2.2 hin hat (g := mkF m pc Ls (.int j :: .ref a :: S)) rfl rfl (K.d hd) _ k) k
theorem g_aald {a : Addr} {kA : ClassId} {ty : FieldType} {n j : Int32} {vs : List Value} {dv v : Value} (X : Stand p l e R s m args below meth c T locs cells slots) (K : Kt p Z s m meth c y bytes maxL ret) (eT : T.heap = h) (A : Arv Z h a kA ty n vs dv) (hty : ty.isReference = true) (hj : ¬ j < 0 ∧ j < n) (hv : vs.getD j.toNatClampNeg dv = v) (hd : decode bytes pc = .ok (.aaload, 1)) (hq : pc + 1 = q) (k : Go p e below P T (mkF m q Ls (v :: S))) : Go p e below P T (mkF m pc Ls (.int j :: .ref a :: S)) := by
  subst hq
  obtain ⟨cl, Ar, hin, hat⟩ := arv_at A hj hv
  exact Go.by_ (fun t k => X.aaload K.x (by rw [eT]; exact Ar.1) (State.isArrayOf_alike K.z.alike Ar.2.1) hty Ar.2.2 hin hat (g := mkF m pc Ls (.int j :: .ref a :: S)) rfl rfl (K.d hd) _ k) k
theorem g_newp {aty : ArrayType} {n : Int32} {cap : Nat} {ty : FieldType} {vs : List Value} (X : Stand p l e R s m args below meth c T locs cells slots) (K : Kt p Z s m meth c y bytes maxL ret) (w : (Jvm.Cond.arrayClass ty).before a0 Z = true) (hty : newarray.typeOf aty = ty) (eT : T.heap = h) (hd : decode bytes pc = .ok (.newarray aty, 2)) (hn : ¬ n < 0) (hcap : n.toNatClampNeg ≤ cap) (hvs : List.replicate cap (defaultValue ty) = vs) (hb : cap * 8 ≤ 536870912) (hc : cells + 1 ≤ R.cells) (hl : slots + cap ≤ R.slots) (hq : pc + 2 = q)
    (k : ∀ (T' : State) (h' : Heap) (a : Addr) (kA : ClassId), Stand p l e R s m args below meth c T' locs (cells + 1) (slots + cap) → T'.heap = h' → Ext h h' → h.size = a → Arv Z h' a kA ty n vs (defaultValue ty) → Go p e below P T' (mkF m q Ls (.ref a :: S))) : Go p e below P T (mkF m pc Ls (.int n :: S)) := by
  subst hq hty hvs
  obtain ⟨T1, h1, kA, X1, e1, E1, A1, st⟩ := newP X K.x K.z w eT (g := mkF m pc Ls (.int n :: S)) rfl (K.d hd) rfl hn hcap hb hc hl
  exact Go.by_ st (k T1 h1 _ kA X1 e1 E1 rfl ((Arv.new A1 hn).pad (pad_rep [] _ cap)))
theorem g_newr {index : Nat} {C : String} {n : Int32} {cap : Nat} {vs : List Value} (X : Stand p l e R s m args below meth c T locs cells slots) (K : Kt p Z s m meth c y bytes maxL ret) (w : (Jvm.Cond.classLink y.cls index C).before a0 Z = true) (w2 : (Jvm.Cond.arrayOver (.object C)).before a0 Z = true) (eT : T.heap = h) (hd : decode bytes pc = .ok (.anewarray index, 3)) (hn : ¬ n < 0) (hcap : n.toNatClampNeg ≤ cap) (hvs : List.replicate cap Value.null = vs) (hb : cap * 8 ≤ 536870912) (hc : cells + 1 ≤ R.cells) (hl : slots + cap ≤ R.slots) (hq : pc + 3 = q)
    (k : ∀ (T' : State) (h' : Heap) (a : Addr) (kA : ClassId), Stand p l e R s m args below meth c T' locs (cells + 1) (slots + cap) → T'.heap = h' → Ext h h' → h.size = a → Arv Z h' a kA (.object C) n vs .null → Ovr Z kA C → Go p e below P T' (mkF m q Ls (.ref a :: S))) : Go p e below P T (mkF m pc Ls (.int n :: S)) := by
  subst hq hvs
  obtain ⟨T1, h1, kA, X1, e1, E1, A1, O1, st⟩ := newR X K.x K.z K.own w w2 eT (g := mkF m pc Ls (.int n :: S)) rfl (K.d hd) rfl hn hcap hb hc hl
  exact Go.by_ st (k T1 h1 _ kA X1 e1 E1 rfl ((Arv.new A1 hn).pad (pad_rep [] _ cap)) O1)
theorem g_grid {index : Nat} {C ad : String} {ty : FieldType} {n k : Int32} {N cap : Nat} {vs : List Value} (X : Stand p l e R s m args below meth c T locs cells slots) (K : Kt p Z s m meth c y bytes maxL ret) (hC : (FieldType.array ty).toString = C) (had : "[" ++ C = ad) (w1 : (Jvm.Cond.classLink y.cls index ad).before a0 Z = true) (w2 : (Jvm.Cond.arrayOver (.array ty)).before a0 Z = true) (w3 : (Jvm.Cond.arrayClass ty).before a0 Z = true) (eT : T.heap = h) (hd : decode bytes pc = .ok (.multianewarray index 2, 4)) (hn : ¬ n < 0) (hk : ¬ k < 0) (hN : n.toNatClampNeg = N) (hcap : k.toNatClampNeg ≤ cap) (hvs : List.replicate cap (defaultValue ty) = vs) (hb : cap * 8 ≤ 536870912) (hb1 : N ≤ 1000) (hdf : fits ty (defaultValue ty) = true) (hdd : (defaultValue ty).isDefault = true) (hc : cells + (1 + N) ≤ R.cells) (hl : slots + (N + N * cap) ≤ R.slots) (hq : pc + 4 = q)
    (kk : ∀ (T' : State) (h' : Heap) (a : Addr) (kA kI : ClassId), Stand p l e R s m args below meth c T' locs (cells + (1 + N)) (slots + (N + N * cap)) → T'.heap = h' → Ext h h' → h.size = a → Arv Z h' a kA (.array ty) n ((List.range N).map fun j => Value.ref (a + 1 + j)) .null → (∀ j : Nat, j < N → Arv Z h' (a + 1 + j) kI ty k vs (defaultValue ty)) → Go p e below P T' (mkF m q Ls (.ref a :: S))) : Go p e below P T (mkF m pc Ls (.int k :: .int n :: S)) := by
  subst hq hvs
  obtain ⟨T1, h1, kA, kI, X1, e1, E1, A1, -, -, I1, st⟩ := gridM X K.x K.z K.own hC had w1 w2 w3 eT (g := mkF m pc Ls (.int k :: .int n :: S)) rfl (K.d hd) rfl hn hk hN rfl hcap hb hb1 hdf hdd hc hl
  refine Go.by_ st (kk T1 h1 _ kA kI X1 e1 E1 rfl ?_ fun j hj => ?_)
  · simpa [List.map_map, Function.comp_def] using A1
  · exact (Arv.new (I1 j _ (by simp [hj])).1 hk).pad (pad_rep [] _ cap)
theorem arv_set {a : Addr} {kA : ClassId} {ty : FieldType} {n j : Int32} {vs vs' : List Value} {dv v : Value} {h' : Heap} (A : Arv Z h a kA ty n vs dv) (hv : fits ty v = true) (W : Wr h h' a j.toNatClampNeg v) (hl : j.toNatClampNeg < vs.length) (hs : vs.set j.toNatClampNeg v = vs') : Arv Z h' a kA ty n vs' dv := by
  subst hs
  obtain ⟨cl, Ar, q1, Sz, Nn, H, G⟩ := A
  exact Arv.set Ar q1 Sz Nn H G hv W _ rfl hl
theorem g_iast {a : Addr} {kA : ClassId} {n j x : Int32} {vs vs' : List Value} {dv : Value} (X : Stand p l e R s m args below meth c T locs cells slots) (K : Kt p Z s m meth c y bytes maxL ret) (eT : T.heap = h) (A : Arv Z h a kA .int n vs dv) (hj : ¬ j < 0 ∧ j < n) (hl : j.toNatClampNeg < vs.length) (hs : vs.set j.toNatClampNeg (.int x) = vs') (hd : decode bytes pc = .ok (.iastore, 1)) (hq : pc + 1 = q)
    (k : ∀ T' h', Stand p l e R s m args below meth c T' (locs ++ [⟨a, j.toNatClampNeg⟩]) cells slots → T'.heap = h' → Wr h h' a j.toNatClampNeg (.int x) → Arv Z h' a kA .int n vs' dv → Go p e below P T' (mkF m q Ls S)) : Go p e below P T (mkF m pc Ls (.int x :: .int j :: .ref a :: S)) := by
  subst hq
  obtain ⟨cl, Ar, hin, -⟩ := arv_at A hj rfl
  obtain ⟨T1, h1, X1, e1, W1, st⟩ := stI X K.x K.z eT Ar hin (g := mkF m pc Ls (.int x :: .int j :: .ref a :: S)) rfl rfl (K.d hd)
  exact Go.by_ st (k T1 h1 X1 e1 W1 (arv_set A rfl W1 hl hs))
theorem g_last {a : Addr} {kA : ClassId} {n j : Int32} {x : Int64} {vs vs' : List Value} {dv : Value} (X : Stand p l e R s m args below meth c T locs cells slots) (K : Kt p Z s m meth c y bytes maxL ret) (eT : T.heap = h) (A : Arv Z h a kA .long n vs dv) (hj : ¬ j < 0 ∧ j < n) (hl : j.toNatClampNeg < vs.length) (hs : vs.set j.toNatClampNeg (.long x) = vs') (hd : decode bytes pc = .ok (.lastore, 1)) (hq : pc + 1 = q)
    (k : ∀ T' h', Stand p l e R s m args below meth c T' (locs ++ [⟨a, j.toNatClampNeg⟩]) cells slots → T'.heap = h' → Wr h h' a j.toNatClampNeg (.long x) → Arv Z h' a kA .long n vs' dv → Go p e below P T' (mkF m q Ls S)) : Go p e below P T (mkF m pc Ls (.long x :: .int j :: .ref a :: S)) := by
  subst hq
  obtain ⟨cl, Ar, hin, -⟩ := arv_at A hj rfl
  obtain ⟨T1, h1, X1, e1, W1, st⟩ := stJ X K.x K.z eT Ar hin (g := mkF m pc Ls (.long x :: .int j :: .ref a :: S)) rfl rfl (K.d hd)
  exact Go.by_ st (k T1 h1 X1 e1 W1 (arv_set A rfl W1 hl hs))
theorem g_bast {a : Addr} {kA : ClassId} {n j x z : Int32} {vs vs' : List Value} {dv : Value} (X : Stand p l e R s m args below meth c T locs cells slots) (K : Kt p Z s m meth c y bytes maxL ret) (eT : T.heap = h) (A : Arv Z h a kA .byte n vs dv) (hj : ¬ j < 0 ∧ j < n) (hl : j.toNatClampNeg < vs.length) (hz : nar .byte x = z) (hs : vs.set j.toNatClampNeg (.int z) = vs') (hd : decode bytes pc = .ok (.bastore, 1)) (hq : pc + 1 = q)
    (k : ∀ T' h', Stand p l e R s m args below meth c T' (locs ++ [⟨a, j.toNatClampNeg⟩]) cells slots → T'.heap = h' → Wr h h' a j.toNatClampNeg (.int z) → Arv Z h' a kA .byte n vs' dv → Go p e below P T' (mkF m q Ls S)) : Go p e below P T (mkF m pc Ls (.int x :: .int j :: .ref a :: S)) := by
  subst hq hz
  obtain ⟨cl, Ar, hin, -⟩ := arv_at A hj rfl
  obtain ⟨T1, h1, X1, e1, W1, st⟩ := stB X K.x K.z eT Ar hin (g := mkF m pc Ls (.int x :: .int j :: .ref a :: S)) rfl rfl (K.d hd)
  exact Go.by_ st (k T1 h1 X1 e1 W1 (arv_set A (fits_nar_byte _) W1 hl hs))
theorem g_zast {a : Addr} {kA : ClassId} {n j x z : Int32} {vs vs' : List Value} {dv : Value} (X : Stand p l e R s m args below meth c T locs cells slots) (K : Kt p Z s m meth c y bytes maxL ret) (eT : T.heap = h) (A : Arv Z h a kA .boolean n vs dv) (hj : ¬ j < 0 ∧ j < n) (hl : j.toNatClampNeg < vs.length) (hz : nar .boolean x = z) (hs : vs.set j.toNatClampNeg (.int z) = vs') (hd : decode bytes pc = .ok (.bastore, 1)) (hq : pc + 1 = q)
    (k : ∀ T' h', Stand p l e R s m args below meth c T' (locs ++ [⟨a, j.toNatClampNeg⟩]) cells slots → T'.heap = h' → Wr h h' a j.toNatClampNeg (.int z) → Arv Z h' a kA .boolean n vs' dv → Go p e below P T' (mkF m q Ls S)) : Go p e below P T (mkF m pc Ls (.int x :: .int j :: .ref a :: S)) := by
  subst hq hz
  obtain ⟨cl, Ar, hin, -⟩ := arv_at A hj rfl
  obtain ⟨T1, h1, X1, e1, W1, st⟩ := stZ X K.x K.z eT Ar hin (g := mkF m pc Ls (.int x :: .int j :: .ref a :: S)) rfl rfl (K.d hd)
  exact Go.by_ st (k T1 h1 X1 e1 W1 (arv_set A (fits_nar_bool _) W1 hl hs))
theorem g_aast {a : Addr} {kA : ClassId} {C : String} {n j : Int32} {v : Value} {vs vs' : List Value} {dv : Value} (X : Stand p l e R s m args below meth c T locs cells slots) (K : Kt p Z s m meth c y bytes maxL ret) (eT : T.heap = h) (A : Arv Z h a kA (.object C) n vs dv) (hv : v = .null ∨ ∃ b, v = .ref b ∧ Ovr Z kA C ∧ Ins Z h b C true) (hj : ¬ j < 0 ∧ j < n) (hl : j.toNatClampNeg < vs.length) (hs : vs.set j.toNatClampNeg v = vs') (hd : decode bytes pc = .ok (.aastore, 1)) (hq : pc + 1 = q)
    (k : ∀ T' h', Stand p l e R s m args below meth c T' (locs ++ [⟨a, j.toNatClampNeg⟩]) cells slots → T'.heap = h' → Wr h h' a j.toNatClampNeg v → Arv Z h' a kA (.object C) n vs' dv → Go p e below P T' (mkF m q Ls S)) : Go p e below P T (mkF m pc Ls (v :: .int j :: .ref a :: S)) := by
  subst hq
  have hfit : fits (.object C) v = true := by rcases hv with rfl | ⟨b, rfl, -⟩ <;> rfl
  obtain ⟨cl, Ar, q1, Sz, -⟩ := id A
  have hin := inb_of Sz hj
  have F : Sto Z h a v := by
    rcases hv with rfl | ⟨b, rfl, O, I⟩
    · exact Or.inl rfl
    · exact Sto.ofV Ar q1 O I
  obtain ⟨T1, h1, X1, e1, W1, st⟩ := stR X K.x K.z eT Ar hin rfl F (g := mkF m pc Ls (v :: .int j :: .ref a :: S)) rfl rfl (K.d hd)
  exact Go.by_ st (k T1 h1 X1 e1 W1 (arv_set A hfit W1 hl hs))
/-! calls -/
variable {y' : MethodName} {bytes' : ByteArray} {maxL' : Nat} {ret' : Option FieldType} {rm : Room} {as' : Array Value} {Q' : Option Value → Heap → List Loc → Prop} {index : Nat} {argsL rest : List Value} {W : Nat}
theorem g_static (X : Stand p l e R s m args below meth c T locs cells slots) (K : Kt p Z s m meth c y bytes maxL ret) (w1 : (Jvm.Cond.methodLink y.cls index y').before a0 Z = true) (w2 : (Jvm.Cond.static y').before a0 Z = true) (w3 : (Jvm.Cond.initialized y'.cls).before a0 Z = true) (w4 : (Jvm.Cond.code y' bytes' maxL' ret').before a0 Z = true) (hy : y'.cls ≠ "java/lang/invoke/MethodHandle" ∧ y'.cls ≠ "java/lang/invoke/VarHandle")
    (hM : Mt l Z y' bytes' maxL' ret' [] rm as' h Q') (eT : T.heap = h) (hsz : Ls.size = maxL) (hlen : ∀ sig, parseMethodDescriptor y'.desc = some sig → argsL.length = sig.parameters.length) (hst : S = argsL.reverse ++ rest) (has : argsL.toArray = as') (hW : (rest.map fun v => v.category).sum ≤ W) (hd : decode bytes pc = .ok (.invokestatic index, 3))
    (hf : rm.frames + 1 ≤ R.frames) (hl : W + (maxL' + 11) + rm.locals ≤ R.locals) (hc : cells + rm.cells ≤ R.cells) (hs : slots + rm.slots ≤ R.slots) (hq : pc + 3 = q)
    (k : ∀ T' v L, Stand p l e R s m args below meth c T' (locs ++ L) (cells + rm.cells) (slots + rm.slots) → Q' v T'.heap L → Go p e below P T' (mkF m q Ls (v.toList ++ rest))) : Go p e below P T (mkF m pc Ls S) := by
  subst hq has hst
  obtain ⟨v, _, ⟨T1, L1, k1, n1⟩, -, X1, ⟨Lc, hQ, l1, y1, z1⟩, st⟩ := Jvm.LawKit.callS X K.x (y := y') K.own (mvT K.z w1) (mvT K.z w2) (mvT K.z w3) (mvT K.z w4) hy (backOf (W := W) hM K.z w4 w3 hf hl) (g := mkF m pc Ls (argsL.reverse ++ rest)) rfl (by rw [K.ml]; exact hsz) (argsL := argsL) (rest := rest) hlen rfl (by show 2 * 0 + _ ≤ _; omega) (K.d hd) (fun _ _ => ⟨rfl, eT, hc, hs⟩)
  dsimp only [Pt.U, Pt.locs, Pt.cells, Pt.slots] at X1 l1 y1 z1 st hQ
  subst l1 y1 z1
  exact Go.by_ st (k T1 v Lc X1 hQ)
theorem g_special {a : Addr} (X : Stand p l e R s m args below meth c T locs cells slots) (K : Kt p Z s m meth c y bytes maxL ret) (hy1 : y'.name = "<init>") (w1 : (Jvm.Cond.methodLink y.cls index y').before a0 Z = true) (w2 : (Jvm.Cond.instanceMethod y').before a0 Z = true) (w3 : (Jvm.Cond.initialized y'.cls).before a0 Z = true) (w4 : (Jvm.Cond.code y' bytes' maxL' none).before a0 Z = true) (hy : y'.cls ≠ "java/lang/invoke/MethodHandle" ∧ y'.cls ≠ "java/lang/invoke/VarHandle")
    (hM : Mt l Z y' bytes' maxL' none [] rm as' h Q') (eT : T.heap = h) (hsz : Ls.size = maxL) (hlen : ∀ sig, parseMethodDescriptor y'.desc = some sig → argsL.length = sig.parameters.length) (hst : S = argsL.reverse ++ .ref a :: rest) (has : (Value.ref a :: argsL).toArray = as') (hW : (rest.map fun v => v.category).sum ≤ W) (hd : decode bytes pc = .ok (.invokespecial index, 3))
    (hf : rm.frames + 1 ≤ R.frames) (hl : W + (maxL' + 11) + rm.locals ≤ R.locals) (hc : cells + rm.cells ≤ R.cells) (hs : slots + rm.slots ≤ R.slots) (hq : pc + 3 = q)
    (k : ∀ T' v L, Stand p l e R s m args below meth c T' (locs ++ L) (cells + rm.cells) (slots + rm.slots) → Q' v T'.heap L → Go p e below P T' (mkF m q Ls (v.toList ++ rest))) : Go p e below P T (mkF m pc Ls S) := by
  subst hq has hst
  obtain ⟨v, _, ⟨T1, L1, k1, n1⟩, -, X1, ⟨Lc, hQ, l1, y1, z1⟩, st⟩ := X.specialBack K.x (y := y') hy1 K.own (mvT K.z w1) (mvT K.z w2) (mvT K.z w4) hy (backOf (W := W) hM K.z w4 w3 hf hl) (g := mkF m pc Ls (argsL.reverse ++ .ref a :: rest)) rfl (by rw [K.ml]; exact hsz) (Steps.refl _) (a := a) (argsL := argsL) (rest := rest) hlen rfl (by show 2 * 0 + _ ≤ _; omega) (K.d hd) (fun _ _ => ⟨rfl, eT, hc, hs⟩)
  dsimp only [Pt.U, Pt.locs, Pt.cells, Pt.slots] at X1 l1 y1 z1 st hQ
  subst l1 y1 z1
  exact Go.tr st (k T1 v Lc X1 hQ)
theorem g_virtual {a : Addr} {C : String} {z' : MethodName} (X : Stand p l e R s m args below meth c T locs cells slots) (K : Kt p Z s m meth c y bytes maxL ret) (w1 : (Jvm.Cond.methodLink y.cls index y').before a0 Z = true) (w2 : (Jvm.Cond.declares y').before a0 Z = true) (nf : NotFace s y') (w5 : (Jvm.Cond.selects C y' z').before a0 Z = true) (w6 : (Jvm.Cond.instanceMethod z').before a0 Z = true) (w3 : (Jvm.Cond.initialized z'.cls).before a0 Z = true) (w4 : (Jvm.Cond.code z' bytes' maxL' ret').before a0 Z = true) (hy : y'.cls ≠ "java/lang/invoke/MethodHandle" ∧ y'.cls ≠ "java/lang/invoke/VarHandle")
    (hM : Mt l Z z' bytes' maxL' ret' [] rm as' h Q') (eT : T.heap = h) (E : Exa Z h a C) (hsz : Ls.size = maxL) (hlen : ∀ sig, parseMethodDescriptor y'.desc = some sig → argsL.length = sig.parameters.length) (hst : S = argsL.reverse ++ .ref a :: rest) (has : (Value.ref a :: argsL).toArray = as') (hW : (rest.map fun v => v.category).sum ≤ W) (hd : decode bytes pc = .ok (.invokevirtual index, 3))
    (hf : rm.frames + 1 ≤ R.frames) (hl : W + (maxL' + 11) + rm.locals ≤ R.locals) (hc : cells + rm.cells ≤ R.cells) (hs : slots + rm.slots ≤ R.slots) (hq : pc + 3 = q)
    (k : ∀ T' v L, Stand p l e R s m args below meth c T' (locs ++ L) (cells + rm.cells) (slots + rm.slots) → Q' v T'.heap L → Go p e below P T' (mkF m q Ls (v.toList ++ rest))) : Go p e below P T (mkF m pc Ls S) := by
  subst hq has hst
  obtain ⟨cq, kq, qa, qb, qc⟩ := isOf K.z eT E
  obtain ⟨v, _, ⟨T1, L1, k1, n1⟩, -, X1, ⟨Lc, hQ, l1, y1, z1⟩, st⟩ := X.virtualBack K.x (y := y') (z := z') K.own (mvT K.z w1) (mvT K.z w2) nf (mvT K.z w5) (mvT K.z w6) hy (backOf (W := W) hM K.z w4 w3 hf hl) qa qc (g := mkF m pc Ls (argsL.reverse ++ .ref a :: rest)) rfl (by rw [K.ml]; exact hsz) (Steps.refl _) (argsL := argsL) (rest := rest) hlen rfl (by show 2 * 0 + _ ≤ _; omega) (K.d hd) (fun _ _ => ⟨rfl, eT, hc, hs⟩)
  dsimp only [Pt.U, Pt.locs, Pt.cells, Pt.slots] at X1 l1 y1 z1 st hQ
  subst l1 y1 z1
  exact Go.tr st (k T1 v Lc X1 hQ)
theorem g_virtualUp {a : Addr} {C owner : String} {z' : MethodName} (X : Stand p l e R s m args below meth c T locs cells slots) (K : Kt p Z s m meth c y bytes maxL ret) (w1 : (Jvm.Cond.methodLink y.cls index y').before a0 Z = true) (w0 : (Jvm.Cond.sameMethod y'.cls owner y'.name y'.desc).before a0 Z = true) (w2 : (Jvm.Cond.declares ⟨owner, y'.name, y'.desc⟩).before a0 Z = true) (hy : owner ≠ "java/lang/invoke/MethodHandle" ∧ owner ≠ "java/lang/invoke/VarHandle") (w5 : (Jvm.Cond.selects C y' z').before a0 Z = true) (w6 : (Jvm.Cond.instanceMethod z').before a0 Z = true) (w3 : (Jvm.Cond.initialized z'.cls).before a0 Z = true) (w4 : (Jvm.Cond.code z' bytes' maxL' ret').before a0 Z = true)
    (hM : Mt l Z z' bytes' maxL' ret' [] rm as' h Q') (eT : T.heap = h) (E : Exa Z h a C) (hsz : Ls.size = maxL) (hlen : ∀ sig, parseMethodDescriptor y'.desc = some sig → argsL.length = sig.parameters.length) (hst : S = argsL.reverse ++ .ref a :: rest) (has : (Value.ref a :: argsL).toArray = as') (hW : (rest.map fun v => v.category).sum ≤ W) (hd : decode bytes pc = .ok (.invokevirtual index, 3))
    (hf : rm.frames + 1 ≤ R.frames) (hl : W + (maxL' + 11) + rm.locals ≤ R.locals) (hc : cells + rm.cells ≤ R.cells) (hs : slots + rm.slots ≤ R.slots) (hq : pc + 3 = q)
    (k : ∀ T' v L, Stand p l e R s m args below meth c T' (locs ++ L) (cells + rm.cells) (slots + rm.slots) → Q' v T'.heap L → Go p e below P T' (mkF m q Ls (v.toList ++ rest))) : Go p e below P T (mkF m pc Ls S) := by
  subst hq has hst
  obtain ⟨cq, kq, qa, qb, qc⟩ := isOf K.z eT E
  obtain ⟨v, _, ⟨T1, L1, k1, n1⟩, -, X1, ⟨Lc, hQ, l1, y1, z1⟩, st⟩ := X.virtualBackUp K.x (x := y') (y := z') K.own (mvT K.z w1) (mvT K.z w0) (mvT K.z w2) hy (mvT K.z w5) (mvT K.z w6) (backOf (W := W) hM K.z w4 w3 hf hl) qa qc (g := mkF m pc Ls (argsL.reverse ++ .ref a :: rest)) rfl (by rw [K.ml]; exact hsz) (Steps.refl _) (argsL := argsL) (rest := rest) hlen rfl (by show 2 * 0 + _ ≤ _; omega) (K.d hd) (fun _ _ => ⟨rfl, eT, hc, hs⟩)
  dsimp only [Pt.U, Pt.locs, Pt.cells, Pt.slots] at X1 l1 y1 z1 st hQ
  subst l1 y1 z1
  exact Go.tr st (k T1 v Lc X1 hQ)
theorem g_face {a : Addr} {C : String} {z' : MethodName} {cnt : Nat} (X : Stand p l e R s m args below meth c T locs cells slots) (K : Kt p Z s m meth c y bytes maxL ret) (w1 : (Jvm.Cond.methodLink y.cls index y').before a0 Z = true) (w2 : (Jvm.Cond.declares y').before a0 Z = true) (wf : (Jvm.Cond.interfaceMethod y'.cls y'.cls y'.name y'.desc).before args s = true) (w5 : (Jvm.Cond.selects C y' z').before a0 Z = true) (w6 : (Jvm.Cond.instanceMethod z').before a0 Z = true) (wp : (Jvm.Cond.publicMethod z').before a0 Z = true) (wu : (Jvm.Cond.unhidden C y'.name y'.desc).before a0 Z = true) (wca : (Jvm.Cond.castable C y'.cls).before a0 Z = true) (w3 : (Jvm.Cond.initialized z'.cls).before a0 Z = true) (w4 : (Jvm.Cond.code z' bytes' maxL' ret').before a0 Z = true) (hy : y'.cls ≠ "java/lang/invoke/MethodHandle" ∧ y'.cls ≠ "java/lang/invoke/VarHandle")
    (hM : Mt l Z z' bytes' maxL' ret' [] rm as' h Q') (eT : T.heap = h) (E : Exa Z h a C) (hsz : Ls.size = maxL) (hlen : ∀ sig, parseMethodDescriptor y'.desc = some sig → argsL.length = sig.parameters.length) (hst : S = argsL.reverse ++ .ref a :: rest) (has : (Value.ref a :: argsL).toArray = as') (hW : (rest.map fun v => v.category).sum ≤ W) (hd : decode bytes pc = .ok (.invokeinterface index cnt, 5))
    (hf : rm.frames + 1 ≤ R.frames) (hl : W + (maxL' + 11) + rm.locals ≤ R.locals) (hc : cells + rm.cells ≤ R.cells) (hs : slots + rm.slots ≤ R.slots) (hq : pc + 5 = q)
    (k : ∀ T' v L, Stand p l e R s m args below meth c T' (locs ++ L) (cells + rm.cells) (slots + rm.slots) → Q' v T'.heap L → Go p e below P T' (mkF m q Ls (v.toList ++ rest))) : Go p e below P T (mkF m pc Ls S) := by
  subst hq has hst
  obtain ⟨cq, kq, qa, qb, qc⟩ := isOf K.z eT E
  obtain ⟨v, _, ⟨T1, L1, k1, n1⟩, -, X1, ⟨Lc, hQ, l1, y1, z1⟩, st⟩ := X.interfaceBack K.x (xi := y') (y := z') K.own (mvT K.z w1) (mvT K.z w2) wf (mvT K.z w5) (mvT K.z w6) (mvT K.z wp) (mvT K.z wu) (mvT K.z wca) hy (backOf (W := W) hM K.z w4 w3 hf hl) qa qb qc (g := mkF m pc Ls (argsL.reverse ++ .ref a :: rest)) rfl (by rw [K.ml]; exact hsz) (Steps.refl _) (argsL := argsL) (rest := rest) hlen rfl (by show 2 * 0 + _ ≤ _; omega) (K.d hd) (fun _ _ => ⟨rfl, eT, hc, hs⟩)
  dsimp only [Pt.U, Pt.locs, Pt.cells, Pt.slots] at X1 l1 y1 z1 st hQ
  subst l1 y1 z1
  exact Go.tr st (k T1 v Lc X1 hQ)
theorem nf_self {C : String} (K : Kt p Z s m meth c y bytes maxL ret) (w : (Jvm.Cond.selects C y' y').before a0 Z = true) : NotFace s y' := notFace_of_selects (args := #[]) (mvT K.z w)
end Heap
end Own
section Start
variable {Z : State} {a0 : Array Value} {t u : Jvm.Term} {n : Int32} {a : Addr} {ty : FieldType} {vs : List Value} {dv v : Value}
def adOf (C n d : String) (Z : State) (a0 : Array Value) : Addr := match (Jvm.Term.static C n d).eval a0 Z none [] Z with | some (.ref a) => a | _ => 0
theorem own_ad {C n d : String} (h : ∃ x, (Jvm.Term.static C n d).eval a0 Z none [] Z = some (.ref x)) : (Jvm.Term.static C n d).eval a0 Z none [] Z = some (.ref (adOf C n d Z a0)) := by
  obtain ⟨x, hx⟩ := h; simp only [adOf, hx]
theorem own_eqint (h : (Jvm.Cond.eq t (.int n)).value a0 Z none Z [] = some true) : t.eval a0 Z none [] Z = some (.int n) := by
  obtain ⟨x, y, h1, h2, h3, -⟩ := cmp_v (Or.inl h)
  cases h2
  cases x <;> first | (simp [Kin, Value.isRef] at h3; done) | skip
  rw [h1]
  have q := gotT (Cond.eq_ints h1 rfl) h
  rw [q]
theorem own_eqref (h : (Jvm.Cond.eq t u).value a0 Z none Z [] = some true) (hu : u.eval a0 Z none [] Z = some (.ref a)) : t.eval a0 Z none [] Z = some (.ref a) := by
  obtain ⟨x, y, h1, h2, h3, h4⟩ := cmp_v (Or.inl h)
  cases h2.symm.trans hu
  have hx : x.isRef = true := by cases x <;> first | rfl | exact h3.1 | (simp [Kin] at h3; done)
  have q := gotT (eq_R h1 hu hx rfl) h
  rw [h1, q]
def kaOf (Z : State) (a : Addr) : ClassId := match Z.heap[a]? with | some c => c.cls | none => 0
theorem own_len (h : (Jvm.Term.length t).eval a0 Z none [] Z = some (.int n)) (ht : t.eval a0 Z none [] Z = some (.ref a)) : ∃ cl : Cell, Z.heap[a]? = some cl ∧ cl.slots.size < 2 ^ 31 ∧ cl.slots.size.toInt32 = n := by
  obtain ⟨a', cl, h1, h2, h3⟩ := Term.length_spec h
  cases ht.symm.trans h1
  refine ⟨cl, (State.arrayAt?_spec h2).1, ?_, by cases h3; rfl⟩
  by_cases q : cl.slots.size < 2147483648
  · exact q
  · simp [Term.eval, ht, h2, q] at h
theorem own_arv (hf : Fit Z) (ht : t.eval a0 Z none [] Z = some (.ref a)) (ha : (Jvm.Cond.arrayOf t ty).value a0 Z none Z [] = some true) (hl : (Jvm.Cond.eq (Jvm.Term.length t) (.int n)).value a0 Z none Z [] = some true) (hn : ¬ n < 0) (hv : n.toNatClampNeg = vs.length) (he : ∀ cl : Cell, Z.heap[a]? = some cl → HasL cl 0 vs) : Arv Z Z.heap a (kaOf Z a) ty n vs dv := by
  obtain ⟨cl, A⟩ := Arr.start ht ha
  obtain ⟨cl', h1, h2, h3⟩ := own_len (own_eqint hl) ht
  cases A.1.symm.trans h1
  have e : kaOf Z a = cl.cls := by simp only [kaOf, A.1]
  rw [e]
  exact Arv.start hf A h2 h3 hn hv (he cl A.1)
theorem own_el {j : Int32} {i : Nat} {cl : Cell} (h : (Jvm.Term.elem t (.int j)).eval a0 Z none [] Z = some v) (ht : t.eval a0 Z none [] Z = some (.ref a)) (hc : Z.heap[a]? = some cl) (hi : j.toNatClampNeg = i) : cl.slots[i]? = some v := by
  subst hi; exact (elem_in h ht (Term.int_eval j) hc).2
theorem own_lit {z k : Int32} {i : Int} (h : z.toInt = i) (hk : k.toInt = i) : z = k := Int32.toInt_inj.mp (h.trans hk.symm)
theorem own_max (x : Int32) : 0 ≤ (x &&& 2147483647).toInt := (c_andS x 2147483647).2.2 (by decide)
theorem own_rem (x : Int32) {n : Int32} {k : Int} (hk : n.toInt = k) (h0 : 0 < k) : 0 ≤ ((x &&& 2147483647) % n).toInt ∧ ((x &&& 2147483647) % n).toInt < k := by
  rw [(c_irem (x &&& 2147483647) n k hk).1 (own_max x)]
  exact ⟨Int.emod_nonneg _ (by omega), Int.emod_lt_of_pos _ h0⟩
variable {x k : Int32} {m : Int}
theorem own_ltI (hk : k.toInt = m) (h : x.toInt < m) : x < k := by rw [Int32.lt_iff_toInt_lt, hk]; exact h
theorem own_nltI (hk : k.toInt = m) (h : ¬ x.toInt < m) : ¬ (x < k) := by rw [Int32.lt_iff_toInt_lt, hk]; exact h
theorem own_gtI (hk : k.toInt = m) (h : m < x.toInt) : k < x := by rw [Int32.lt_iff_toInt_lt, hk]; exact h
theorem own_ngtI (hk : k.toInt = m) (h : ¬ m < x.toInt) : ¬ (k < x) := by rw [Int32.lt_iff_toInt_lt, hk]; exact h
theorem own_eqI (hk : k.toInt = m) (h : x.toInt = m) : x = k := own_lit h hk
theorem own_neI (hk : k.toInt = m) (h : x.toInt ≠ m) : ¬ (x = k) := fun q => h (by rw [q]; exact hk)
theorem own_ltE (hk : k.toInt = m) (h : x < k) : x.toInt < m := by rw [Int32.lt_iff_toInt_lt, hk] at h; exact h
theorem own_nltE (hk : k.toInt = m) (h : ¬ (x < k)) : ¬ x.toInt < m := by rw [Int32.lt_iff_toInt_lt, hk] at h; exact h
theorem own_gtE (hk : k.toInt = m) (h : k < x) : m < x.toInt := by rw [Int32.lt_iff_toInt_lt, hk] at h; exact h
theorem own_ngtE (hk : k.toInt = m) (h : ¬ (k < x)) : ¬ m < x.toInt := by rw [Int32.lt_iff_toInt_lt, hk] at h; exact h
theorem own_eqE (hk : k.toInt = m) (h : x = k) : x.toInt = m := by rw [h]; exact hk
theorem own_neE (hk : k.toInt = m) (h : ¬ (x = k)) : x.toInt ≠ m := fun q => h (own_lit q hk)
theorem own_some {a b : Int32} (h : a = b) : some (Value.int a) = some (Value.int b) := by rw [h]
theorem own_if1 {P : Prop} [Decidable P] (h : P) : (1 : Int32) = if P then 1 else 0 := (if_pos h).symm
theorem own_if0 {P : Prop} [Decidable P] (h : ¬ P) : (0 : Int32) = if P then 1 else 0 := (if_neg h).symm
theorem own_nar {P : Prop} [Decidable P] : nar .boolean (if P then (1 : Int32) else 0) = if P then 1 else 0 := by split <;> rfl
end Start
theorem own_sp6 (x : Int32) : (x &&& (2147483647 : Int32)) % (6 : Int32) = (0 : Int32) ∨ (x &&& (2147483647 : Int32)) % (6 : Int32) = (1 : Int32) ∨ (x &&& (2147483647 : Int32)) % (6 : Int32) = (2 : Int32) ∨ (x &&& (2147483647 : Int32)) % (6 : Int32) = (3 : Int32) ∨ (x &&& (2147483647 : Int32)) % (6 : Int32) = (4 : Int32) ∨ (x &&& (2147483647 : Int32)) % (6 : Int32) = (5 : Int32) := by
  have h := own_rem x (n := (6 : Int32)) (k := 6) (by decide) (by decide)
  generalize (x &&& (2147483647 : Int32)) % (6 : Int32) = z at h ⊢
  have q : z.toInt = 0 ∨ z.toInt = 1 ∨ z.toInt = 2 ∨ z.toInt = 3 ∨ z.toInt = 4 ∨ z.toInt = 5 := by omega
  rcases q with q | q | q | q | q | q
  · exact Or.inl (own_lit q (by decide))
  · exact Or.inr (Or.inl (own_lit q (by decide)))
  · exact Or.inr (Or.inr (Or.inl (own_lit q (by decide))))
  · exact Or.inr (Or.inr (Or.inr (Or.inl (own_lit q (by decide)))))
  · exact Or.inr (Or.inr (Or.inr (Or.inr (Or.inl (own_lit q (by decide))))))
  · exact Or.inr (Or.inr (Or.inr (Or.inr (Or.inr ((own_lit q (by decide)))))))
def Hyp (Z : State) (a0 : Array Value) : Prop := (∀ d ∈ tables_1, d.before a0 Z = true) ∧ narrow_1.value a0 Z none Z [] = some true ∧ Fit Z
section Facts
variable {Z : State} {a0 : Array Value}
theorem w0 (H : Hyp Z a0) : (Jvm.Cond.methodLink "com/example/annotable/annotable/ComparisonSwappedPinLaw" (29 : Nat) ({ cls := "com/example/annotable/annotable/ComparisonSwappedPinLaw", name := "pick", desc := "(I)Lcom/example/annotable/annotable/PathQuery$Comparison;" } : Jvm.MethodName)).before a0 Z = true := H.1 _ (List.mem_of_getElem? (i := 0) rfl)
theorem w1 (H : Hyp Z a0) : (Jvm.Cond.static ({ cls := "com/example/annotable/annotable/ComparisonSwappedPinLaw", name := "pick", desc := "(I)Lcom/example/annotable/annotable/PathQuery$Comparison;" } : Jvm.MethodName)).before a0 Z = true := H.1 _ (List.mem_of_getElem? (i := 1) rfl)
theorem w2 (H : Hyp Z a0) : (Jvm.Cond.initialized "com/example/annotable/annotable/ComparisonSwappedPinLaw").before a0 Z = true := H.1 _ (List.mem_of_getElem? (i := 2) rfl)
theorem w3 (H : Hyp Z a0) : (Jvm.Cond.code ({ cls := "com/example/annotable/annotable/ComparisonSwappedPinLaw", name := "pick", desc := "(I)Lcom/example/annotable/annotable/PathQuery$Comparison;" } : Jvm.MethodName) method_2_code (2 : Nat) (Option.some (Jvm.ClassFile.FieldType.object "com/example/annotable/annotable/PathQuery$Comparison"))).before a0 Z = true := H.1 _ (List.mem_of_getElem? (i := 3) rfl)
theorem w4 (H : Hyp Z a0) : (Jvm.Cond.constant "com/example/annotable/annotable/ComparisonSwappedPinLaw" (7 : Nat) (2147483647 : Int32)).before a0 Z = true := H.1 _ (List.mem_of_getElem? (i := 4) rfl)
theorem w5 (H : Hyp Z a0) : (Jvm.Cond.fieldLink "com/example/annotable/annotable/ComparisonSwappedPinLaw" (8 : Nat) "com/example/annotable/annotable/PathQuery$Comparison" "EQUAL" "Lcom/example/annotable/annotable/PathQuery$Comparison;").before a0 Z = true := H.1 _ (List.mem_of_getElem? (i := 5) rfl)
theorem w6 (H : Hyp Z a0) : (Jvm.Cond.initialized "com/example/annotable/annotable/PathQuery$Comparison").before a0 Z = true := H.1 _ (List.mem_of_getElem? (i := 6) rfl)
theorem w7 (H : Hyp Z a0) : (Jvm.Cond.laysStatic "com/example/annotable/annotable/PathQuery$Comparison" "EQUAL" "Lcom/example/annotable/annotable/PathQuery$Comparison;").before a0 Z = true := H.1 _ (List.mem_of_getElem? (i := 7) rfl)
theorem w8 (H : Hyp Z a0) : (Jvm.Cond.methodLink "com/example/annotable/annotable/ComparisonSwappedPinLaw" (35 : Nat) ({ cls := "com/example/annotable/annotable/PathQuery$Comparison", name := "swapped", desc := "()Lcom/example/annotable/annotable/PathQuery$Comparison;" } : Jvm.MethodName)).before a0 Z = true := H.1 _ (List.mem_of_getElem? (i := 8) rfl)
theorem w9 (H : Hyp Z a0) : (Jvm.Cond.declares ({ cls := "com/example/annotable/annotable/PathQuery$Comparison", name := "swapped", desc := "()Lcom/example/annotable/annotable/PathQuery$Comparison;" } : Jvm.MethodName)).before a0 Z = true := H.1 _ (List.mem_of_getElem? (i := 9) rfl)
theorem w10 (H : Hyp Z a0) : (Jvm.Cond.instanceMethod ({ cls := "com/example/annotable/annotable/PathQuery$Comparison", name := "swapped", desc := "()Lcom/example/annotable/annotable/PathQuery$Comparison;" } : Jvm.MethodName)).before a0 Z = true := H.1 _ (List.mem_of_getElem? (i := 10) rfl)
theorem w11 (H : Hyp Z a0) : (Jvm.Cond.selects "com/example/annotable/annotable/PathQuery$Comparison" ({ cls := "com/example/annotable/annotable/PathQuery$Comparison", name := "swapped", desc := "()Lcom/example/annotable/annotable/PathQuery$Comparison;" } : Jvm.MethodName) ({ cls := "com/example/annotable/annotable/PathQuery$Comparison", name := "swapped", desc := "()Lcom/example/annotable/annotable/PathQuery$Comparison;" } : Jvm.MethodName)).before a0 Z = true := H.1 _ (List.mem_of_getElem? (i := 11) rfl)
theorem w12 (H : Hyp Z a0) : (Jvm.Cond.code ({ cls := "com/example/annotable/annotable/PathQuery$Comparison", name := "swapped", desc := "()Lcom/example/annotable/annotable/PathQuery$Comparison;" } : Jvm.MethodName) prog_16_method_5_code (1 : Nat) (Option.some (Jvm.ClassFile.FieldType.object "com/example/annotable/annotable/PathQuery$Comparison"))).before a0 Z = true := H.1 _ (List.mem_of_getElem? (i := 12) rfl)
theorem w13 (H : Hyp Z a0) : (Jvm.Cond.methodLink "com/example/annotable/annotable/PathQuery$Comparison" (45 : Nat) ({ cls := "com/example/annotable/annotable/PathQuery$Comparison", name := "ordinal", desc := "()I" } : Jvm.MethodName)).before a0 Z = true := H.1 _ (List.mem_of_getElem? (i := 13) rfl)
theorem w14 (H : Hyp Z a0) : (Jvm.Cond.sameMethod "com/example/annotable/annotable/PathQuery$Comparison" "java/lang/Enum" "ordinal" "()I").before a0 Z = true := H.1 _ (List.mem_of_getElem? (i := 14) rfl)
theorem w15 (H : Hyp Z a0) : (Jvm.Cond.declares ({ cls := "java/lang/Enum", name := "ordinal", desc := "()I" } : Jvm.MethodName)).before a0 Z = true := H.1 _ (List.mem_of_getElem? (i := 15) rfl)
theorem w16 (H : Hyp Z a0) : (Jvm.Cond.instanceMethod ({ cls := "java/lang/Enum", name := "ordinal", desc := "()I" } : Jvm.MethodName)).before a0 Z = true := H.1 _ (List.mem_of_getElem? (i := 16) rfl)
theorem w17 (H : Hyp Z a0) : (Jvm.Cond.selects "com/example/annotable/annotable/PathQuery$Comparison" ({ cls := "com/example/annotable/annotable/PathQuery$Comparison", name := "ordinal", desc := "()I" } : Jvm.MethodName) ({ cls := "java/lang/Enum", name := "ordinal", desc := "()I" } : Jvm.MethodName)).before a0 Z = true := H.1 _ (List.mem_of_getElem? (i := 17) rfl)
theorem w18 (H : Hyp Z a0) : (Jvm.Cond.initialized "java/lang/Enum").before a0 Z = true := H.1 _ (List.mem_of_getElem? (i := 18) rfl)
theorem w19 (H : Hyp Z a0) : (Jvm.Cond.code ({ cls := "java/lang/Enum", name := "ordinal", desc := "()I" } : Jvm.MethodName) jdk_37_method_2_code (1 : Nat) (Option.some Jvm.ClassFile.FieldType.int)).before a0 Z = true := H.1 _ (List.mem_of_getElem? (i := 19) rfl)
theorem w20 (H : Hyp Z a0) : (Jvm.Cond.fieldLink "java/lang/Enum" (7 : Nat) "java/lang/Enum" "ordinal" "I").before a0 Z = true := H.1 _ (List.mem_of_getElem? (i := 20) rfl)
theorem w22 (H : Hyp Z a0) : (Jvm.Cond.methodLink "com/example/annotable/annotable/ComparisonSwappedPinLaw" (39 : Nat) ({ cls := "com/example/annotable/annotable/ComparisonSwappedPinLaw", name := "holds", desc := "(Lcom/example/annotable/annotable/PathQuery$Comparison;II)Z" } : Jvm.MethodName)).before a0 Z = true := H.1 _ (List.mem_of_getElem? (i := 22) rfl)
theorem w23 (H : Hyp Z a0) : (Jvm.Cond.static ({ cls := "com/example/annotable/annotable/ComparisonSwappedPinLaw", name := "holds", desc := "(Lcom/example/annotable/annotable/PathQuery$Comparison;II)Z" } : Jvm.MethodName)).before a0 Z = true := H.1 _ (List.mem_of_getElem? (i := 23) rfl)
theorem w24 (H : Hyp Z a0) : (Jvm.Cond.code ({ cls := "com/example/annotable/annotable/ComparisonSwappedPinLaw", name := "holds", desc := "(Lcom/example/annotable/annotable/PathQuery$Comparison;II)Z" } : Jvm.MethodName) method_3_code (3 : Nat) (Option.some Jvm.ClassFile.FieldType.boolean)).before a0 Z = true := H.1 _ (List.mem_of_getElem? (i := 24) rfl)
theorem w25 (H : Hyp Z a0) : (Jvm.Cond.fieldLink "com/example/annotable/annotable/ComparisonSwappedPinLaw" (14 : Nat) "com/example/annotable/annotable/PathQuery$Comparison" "NOT_EQUAL" "Lcom/example/annotable/annotable/PathQuery$Comparison;").before a0 Z = true := H.1 _ (List.mem_of_getElem? (i := 25) rfl)
theorem w26 (H : Hyp Z a0) : (Jvm.Cond.laysStatic "com/example/annotable/annotable/PathQuery$Comparison" "NOT_EQUAL" "Lcom/example/annotable/annotable/PathQuery$Comparison;").before a0 Z = true := H.1 _ (List.mem_of_getElem? (i := 26) rfl)
theorem w27 (H : Hyp Z a0) : (Jvm.Cond.fieldLink "com/example/annotable/annotable/ComparisonSwappedPinLaw" (23 : Nat) "com/example/annotable/annotable/PathQuery$Comparison" "GREATER" "Lcom/example/annotable/annotable/PathQuery$Comparison;").before a0 Z = true := H.1 _ (List.mem_of_getElem? (i := 27) rfl)
theorem w28 (H : Hyp Z a0) : (Jvm.Cond.laysStatic "com/example/annotable/annotable/PathQuery$Comparison" "GREATER" "Lcom/example/annotable/annotable/PathQuery$Comparison;").before a0 Z = true := H.1 _ (List.mem_of_getElem? (i := 28) rfl)
theorem w29 (H : Hyp Z a0) : (Jvm.Cond.fieldLink "com/example/annotable/annotable/PathQuery$Comparison" (10 : Nat) "com/example/annotable/annotable/PathQuery$Comparison" "LESS" "Lcom/example/annotable/annotable/PathQuery$Comparison;").before a0 Z = true := H.1 _ (List.mem_of_getElem? (i := 29) rfl)
theorem w30 (H : Hyp Z a0) : (Jvm.Cond.laysStatic "com/example/annotable/annotable/PathQuery$Comparison" "LESS" "Lcom/example/annotable/annotable/PathQuery$Comparison;").before a0 Z = true := H.1 _ (List.mem_of_getElem? (i := 30) rfl)
theorem w31 (H : Hyp Z a0) : (Jvm.Cond.fieldLink "com/example/annotable/annotable/ComparisonSwappedPinLaw" (17 : Nat) "com/example/annotable/annotable/PathQuery$Comparison" "LESS" "Lcom/example/annotable/annotable/PathQuery$Comparison;").before a0 Z = true := H.1 _ (List.mem_of_getElem? (i := 31) rfl)
theorem w32 (H : Hyp Z a0) : (Jvm.Cond.fieldLink "com/example/annotable/annotable/ComparisonSwappedPinLaw" (20 : Nat) "com/example/annotable/annotable/PathQuery$Comparison" "LESS_OR_EQUAL" "Lcom/example/annotable/annotable/PathQuery$Comparison;").before a0 Z = true := H.1 _ (List.mem_of_getElem? (i := 32) rfl)
theorem w33 (H : Hyp Z a0) : (Jvm.Cond.laysStatic "com/example/annotable/annotable/PathQuery$Comparison" "LESS_OR_EQUAL" "Lcom/example/annotable/annotable/PathQuery$Comparison;").before a0 Z = true := H.1 _ (List.mem_of_getElem? (i := 33) rfl)
theorem w34 (H : Hyp Z a0) : (Jvm.Cond.fieldLink "com/example/annotable/annotable/PathQuery$Comparison" (16 : Nat) "com/example/annotable/annotable/PathQuery$Comparison" "GREATER" "Lcom/example/annotable/annotable/PathQuery$Comparison;").before a0 Z = true := H.1 _ (List.mem_of_getElem? (i := 34) rfl)
theorem w35 (H : Hyp Z a0) : (Jvm.Cond.fieldLink "com/example/annotable/annotable/PathQuery$Comparison" (19 : Nat) "com/example/annotable/annotable/PathQuery$Comparison" "GREATER_OR_EQUAL" "Lcom/example/annotable/annotable/PathQuery$Comparison;").before a0 Z = true := H.1 _ (List.mem_of_getElem? (i := 35) rfl)
theorem w36 (H : Hyp Z a0) : (Jvm.Cond.laysStatic "com/example/annotable/annotable/PathQuery$Comparison" "GREATER_OR_EQUAL" "Lcom/example/annotable/annotable/PathQuery$Comparison;").before a0 Z = true := H.1 _ (List.mem_of_getElem? (i := 36) rfl)
theorem w37 (H : Hyp Z a0) : (Jvm.Cond.fieldLink "com/example/annotable/annotable/ComparisonSwappedPinLaw" (26 : Nat) "com/example/annotable/annotable/PathQuery$Comparison" "GREATER_OR_EQUAL" "Lcom/example/annotable/annotable/PathQuery$Comparison;").before a0 Z = true := H.1 _ (List.mem_of_getElem? (i := 37) rfl)
theorem w38 (H : Hyp Z a0) : (Jvm.Cond.fieldLink "com/example/annotable/annotable/PathQuery$Comparison" (13 : Nat) "com/example/annotable/annotable/PathQuery$Comparison" "LESS_OR_EQUAL" "Lcom/example/annotable/annotable/PathQuery$Comparison;").before a0 Z = true := H.1 _ (List.mem_of_getElem? (i := 38) rfl)
theorem n0 (H : Hyp Z a0) : (Jvm.Cond.exactly (Jvm.Term.static "com/example/annotable/annotable/PathQuery$Comparison" "EQUAL" "Lcom/example/annotable/annotable/PathQuery$Comparison;") "com/example/annotable/annotable/PathQuery$Comparison").value a0 Z none Z [] = some true := (and_e H.2.1).1
theorem n1 (H : Hyp Z a0) : (Jvm.Cond.eq (Jvm.Term.field (Jvm.Term.static "com/example/annotable/annotable/PathQuery$Comparison" "EQUAL" "Lcom/example/annotable/annotable/PathQuery$Comparison;") "java/lang/Enum" "ordinal" "I") (Jvm.Term.int (0 : Int32))).value a0 Z none Z [] = some true := (and_e (and_e H.2.1).2).1
theorem n2 (H : Hyp Z a0) : (Jvm.Cond.exactly (Jvm.Term.static "com/example/annotable/annotable/PathQuery$Comparison" "NOT_EQUAL" "Lcom/example/annotable/annotable/PathQuery$Comparison;") "com/example/annotable/annotable/PathQuery$Comparison").value a0 Z none Z [] = some true := (and_e (and_e (and_e H.2.1).2).2).1
theorem n3 (H : Hyp Z a0) : (Jvm.Cond.eq (Jvm.Term.field (Jvm.Term.static "com/example/annotable/annotable/PathQuery$Comparison" "NOT_EQUAL" "Lcom/example/annotable/annotable/PathQuery$Comparison;") "java/lang/Enum" "ordinal" "I") (Jvm.Term.int (1 : Int32))).value a0 Z none Z [] = some true := (and_e (and_e (and_e (and_e H.2.1).2).2).2).1
theorem n4 (H : Hyp Z a0) : (Jvm.Cond.exactly (Jvm.Term.static "com/example/annotable/annotable/PathQuery$Comparison" "GREATER" "Lcom/example/annotable/annotable/PathQuery$Comparison;") "com/example/annotable/annotable/PathQuery$Comparison").value a0 Z none Z [] = some true := (and_e (and_e (and_e (and_e (and_e H.2.1).2).2).2).2).1
theorem n5 (H : Hyp Z a0) : (Jvm.Cond.eq (Jvm.Term.field (Jvm.Term.static "com/example/annotable/annotable/PathQuery$Comparison" "GREATER" "Lcom/example/annotable/annotable/PathQuery$Comparison;") "java/lang/Enum" "ordinal" "I") (Jvm.Term.int (4 : Int32))).value a0 Z none Z [] = some true := (and_e (and_e (and_e (and_e (and_e (and_e H.2.1).2).2).2).2).2).1
theorem n6 (H : Hyp Z a0) : (Jvm.Cond.exactly (Jvm.Term.static "com/example/annotable/annotable/PathQuery$Comparison" "LESS" "Lcom/example/annotable/annotable/PathQuery$Comparison;") "com/example/annotable/annotable/PathQuery$Comparison").value a0 Z none Z [] = some true := (and_e (and_e (and_e (and_e (and_e (and_e (and_e H.2.1).2).2).2).2).2).2).1
theorem n7 (H : Hyp Z a0) : (Jvm.Cond.eq (Jvm.Term.field (Jvm.Term.static "com/example/annotable/annotable/PathQuery$Comparison" "LESS" "Lcom/example/annotable/annotable/PathQuery$Comparison;") "java/lang/Enum" "ordinal" "I") (Jvm.Term.int (2 : Int32))).value a0 Z none Z [] = some true := (and_e (and_e (and_e (and_e (and_e (and_e (and_e (and_e H.2.1).2).2).2).2).2).2).2).1
theorem n8 (H : Hyp Z a0) : (Jvm.Cond.exactly (Jvm.Term.static "com/example/annotable/annotable/PathQuery$Comparison" "LESS_OR_EQUAL" "Lcom/example/annotable/annotable/PathQuery$Comparison;") "com/example/annotable/annotable/PathQuery$Comparison").value a0 Z none Z [] = some true := (and_e (and_e (and_e (and_e (and_e (and_e (and_e (and_e (and_e H.2.1).2).2).2).2).2).2).2).2).1
theorem n9 (H : Hyp Z a0) : (Jvm.Cond.eq (Jvm.Term.field (Jvm.Term.static "com/example/annotable/annotable/PathQuery$Comparison" "LESS_OR_EQUAL" "Lcom/example/annotable/annotable/PathQuery$Comparison;") "java/lang/Enum" "ordinal" "I") (Jvm.Term.int (3 : Int32))).value a0 Z none Z [] = some true := (and_e (and_e (and_e (and_e (and_e (and_e (and_e (and_e (and_e (and_e H.2.1).2).2).2).2).2).2).2).2).2).1
theorem n10 (H : Hyp Z a0) : (Jvm.Cond.exactly (Jvm.Term.static "com/example/annotable/annotable/PathQuery$Comparison" "GREATER_OR_EQUAL" "Lcom/example/annotable/annotable/PathQuery$Comparison;") "com/example/annotable/annotable/PathQuery$Comparison").value a0 Z none Z [] = some true := (and_e (and_e (and_e (and_e (and_e (and_e (and_e (and_e (and_e (and_e (and_e H.2.1).2).2).2).2).2).2).2).2).2).2).1
theorem n11 (H : Hyp Z a0) : (Jvm.Cond.eq (Jvm.Term.field (Jvm.Term.static "com/example/annotable/annotable/PathQuery$Comparison" "GREATER_OR_EQUAL" "Lcom/example/annotable/annotable/PathQuery$Comparison;") "java/lang/Enum" "ordinal" "I") (Jvm.Term.int (5 : Int32))).value a0 Z none Z [] = some true := (and_e (and_e (and_e (and_e (and_e (and_e (and_e (and_e (and_e (and_e (and_e H.2.1).2).2).2).2).2).2).2).2).2).2).2
def ad0 (Z : State) (a0 : Array Value) : Addr := adOf "com/example/annotable/annotable/PathQuery$Comparison" "EQUAL" "Lcom/example/annotable/annotable/PathQuery$Comparison;" Z a0
theorem ev0 (H : Hyp Z a0) : (Jvm.Term.static "com/example/annotable/annotable/PathQuery$Comparison" "EQUAL" "Lcom/example/annotable/annotable/PathQuery$Comparison;").eval a0 Z none [] Z = some (.ref (ad0 Z a0)) := own_ad (exa_v (n0 H))
theorem s0 (H : Hyp Z a0) : Sta Z Z.heap "com/example/annotable/annotable/PathQuery$Comparison" "EQUAL" "Lcom/example/annotable/annotable/PathQuery$Comparison;" (.ref (ad0 Z a0)) := Sta.start (ev0 H) (Or.inr ⟨(w6 H), (w7 H)⟩)
def ad1 (Z : State) (a0 : Array Value) : Addr := adOf "com/example/annotable/annotable/PathQuery$Comparison" "NOT_EQUAL" "Lcom/example/annotable/annotable/PathQuery$Comparison;" Z a0
theorem ev1 (H : Hyp Z a0) : (Jvm.Term.static "com/example/annotable/annotable/PathQuery$Comparison" "NOT_EQUAL" "Lcom/example/annotable/annotable/PathQuery$Comparison;").eval a0 Z none [] Z = some (.ref (ad1 Z a0)) := own_ad (exa_v (n2 H))
theorem s1 (H : Hyp Z a0) : Sta Z Z.heap "com/example/annotable/annotable/PathQuery$Comparison" "NOT_EQUAL" "Lcom/example/annotable/annotable/PathQuery$Comparison;" (.ref (ad1 Z a0)) := Sta.start (ev1 H) (Or.inr ⟨(w6 H), (w26 H)⟩)
def ad2 (Z : State) (a0 : Array Value) : Addr := adOf "com/example/annotable/annotable/PathQuery$Comparison" "GREATER" "Lcom/example/annotable/annotable/PathQuery$Comparison;" Z a0
theorem ev2 (H : Hyp Z a0) : (Jvm.Term.static "com/example/annotable/annotable/PathQuery$Comparison" "GREATER" "Lcom/example/annotable/annotable/PathQuery$Comparison;").eval a0 Z none [] Z = some (.ref (ad2 Z a0)) := own_ad (exa_v (n4 H))
theorem s2 (H : Hyp Z a0) : Sta Z Z.heap "com/example/annotable/annotable/PathQuery$Comparison" "GREATER" "Lcom/example/annotable/annotable/PathQuery$Comparison;" (.ref (ad2 Z a0)) := Sta.start (ev2 H) (Or.inr ⟨(w6 H), (w28 H)⟩)
def ad3 (Z : State) (a0 : Array Value) : Addr := adOf "com/example/annotable/annotable/PathQuery$Comparison" "LESS" "Lcom/example/annotable/annotable/PathQuery$Comparison;" Z a0
theorem ev3 (H : Hyp Z a0) : (Jvm.Term.static "com/example/annotable/annotable/PathQuery$Comparison" "LESS" "Lcom/example/annotable/annotable/PathQuery$Comparison;").eval a0 Z none [] Z = some (.ref (ad3 Z a0)) := own_ad (exa_v (n6 H))
theorem s3 (H : Hyp Z a0) : Sta Z Z.heap "com/example/annotable/annotable/PathQuery$Comparison" "LESS" "Lcom/example/annotable/annotable/PathQuery$Comparison;" (.ref (ad3 Z a0)) := Sta.start (ev3 H) (Or.inr ⟨(w6 H), (w30 H)⟩)
def ad4 (Z : State) (a0 : Array Value) : Addr := adOf "com/example/annotable/annotable/PathQuery$Comparison" "LESS_OR_EQUAL" "Lcom/example/annotable/annotable/PathQuery$Comparison;" Z a0
theorem ev4 (H : Hyp Z a0) : (Jvm.Term.static "com/example/annotable/annotable/PathQuery$Comparison" "LESS_OR_EQUAL" "Lcom/example/annotable/annotable/PathQuery$Comparison;").eval a0 Z none [] Z = some (.ref (ad4 Z a0)) := own_ad (exa_v (n8 H))
theorem s4 (H : Hyp Z a0) : Sta Z Z.heap "com/example/annotable/annotable/PathQuery$Comparison" "LESS_OR_EQUAL" "Lcom/example/annotable/annotable/PathQuery$Comparison;" (.ref (ad4 Z a0)) := Sta.start (ev4 H) (Or.inr ⟨(w6 H), (w33 H)⟩)
def ad5 (Z : State) (a0 : Array Value) : Addr := adOf "com/example/annotable/annotable/PathQuery$Comparison" "GREATER_OR_EQUAL" "Lcom/example/annotable/annotable/PathQuery$Comparison;" Z a0
theorem ev5 (H : Hyp Z a0) : (Jvm.Term.static "com/example/annotable/annotable/PathQuery$Comparison" "GREATER_OR_EQUAL" "Lcom/example/annotable/annotable/PathQuery$Comparison;").eval a0 Z none [] Z = some (.ref (ad5 Z a0)) := own_ad (exa_v (n10 H))
theorem s5 (H : Hyp Z a0) : Sta Z Z.heap "com/example/annotable/annotable/PathQuery$Comparison" "GREATER_OR_EQUAL" "Lcom/example/annotable/annotable/PathQuery$Comparison;" (.ref (ad5 Z a0)) := Sta.start (ev5 H) (Or.inr ⟨(w6 H), (w36 H)⟩)
theorem x0 (H : Hyp Z a0) : Exa Z Z.heap (ad0 Z a0) "com/example/annotable/annotable/PathQuery$Comparison" := Exa.start (ev0 H) (n0 H)
theorem f0_ordinal (H : Hyp Z a0) : Fld Z Z.heap (ad0 Z a0) "java/lang/Enum" "ordinal" "I" (.int (0 : Int32)) := Fld.start ((fld_at (ev0 H)).symm.trans (own_eqint (n1 H)))
theorem x1 (H : Hyp Z a0) : Exa Z Z.heap (ad1 Z a0) "com/example/annotable/annotable/PathQuery$Comparison" := Exa.start (ev1 H) (n2 H)
theorem f1_ordinal (H : Hyp Z a0) : Fld Z Z.heap (ad1 Z a0) "java/lang/Enum" "ordinal" "I" (.int (1 : Int32)) := Fld.start ((fld_at (ev1 H)).symm.trans (own_eqint (n3 H)))
theorem x2 (H : Hyp Z a0) : Exa Z Z.heap (ad2 Z a0) "com/example/annotable/annotable/PathQuery$Comparison" := Exa.start (ev2 H) (n4 H)
theorem f2_ordinal (H : Hyp Z a0) : Fld Z Z.heap (ad2 Z a0) "java/lang/Enum" "ordinal" "I" (.int (4 : Int32)) := Fld.start ((fld_at (ev2 H)).symm.trans (own_eqint (n5 H)))
theorem x3 (H : Hyp Z a0) : Exa Z Z.heap (ad3 Z a0) "com/example/annotable/annotable/PathQuery$Comparison" := Exa.start (ev3 H) (n6 H)
theorem f3_ordinal (H : Hyp Z a0) : Fld Z Z.heap (ad3 Z a0) "java/lang/Enum" "ordinal" "I" (.int (2 : Int32)) := Fld.start ((fld_at (ev3 H)).symm.trans (own_eqint (n7 H)))
theorem x4 (H : Hyp Z a0) : Exa Z Z.heap (ad4 Z a0) "com/example/annotable/annotable/PathQuery$Comparison" := Exa.start (ev4 H) (n8 H)
theorem f4_ordinal (H : Hyp Z a0) : Fld Z Z.heap (ad4 Z a0) "java/lang/Enum" "ordinal" "I" (.int (3 : Int32)) := Fld.start ((fld_at (ev4 H)).symm.trans (own_eqint (n9 H)))
theorem x5 (H : Hyp Z a0) : Exa Z Z.heap (ad5 Z a0) "com/example/annotable/annotable/PathQuery$Comparison" := Exa.start (ev5 H) (n10 H)
theorem f5_ordinal (H : Hyp Z a0) : Fld Z Z.heap (ad5 Z a0) "java/lang/Enum" "ordinal" "I" (.int (5 : Int32)) := Fld.start ((fld_at (ev5 H)).symm.trans (own_eqint (n11 H)))
end Facts
theorem d1_0 : decode method_2_code 0 = .ok (.iload_n 0, 1) := by decide +kernel
theorem d1_1 : decode method_2_code 1 = .ok (.ldc 7, 2) := by decide +kernel
theorem d1_3 : decode method_2_code 3 = .ok (.iand, 1) := by decide +kernel
theorem d1_4 : decode method_2_code 4 = .ok (.bipush 6, 2) := by decide +kernel
theorem d1_6 : decode method_2_code 6 = .ok (.irem, 1) := by decide +kernel
theorem d1_7 : decode method_2_code 7 = .ok (.istore_n 1, 1) := by decide +kernel
theorem d1_8 : decode method_2_code 8 = .ok (.iload_n 1, 1) := by decide +kernel
theorem d1_9 : decode method_2_code 9 = .ok (.ifCond .ne 7, 3) := by decide +kernel
theorem d1_12 : decode method_2_code 12 = .ok (.getstatic 8, 3) := by decide +kernel
theorem d1_15 : decode method_2_code 15 = .ok (.areturn, 1) := by decide +kernel
theorem d1_16 : decode method_2_code 16 = .ok (.iload_n 1, 1) := by decide +kernel
theorem d1_17 : decode method_2_code 17 = .ok (.iconst 1, 1) := by decide +kernel
theorem d1_18 : decode method_2_code 18 = .ok (.if_icmp .ne 7, 3) := by decide +kernel
theorem d1_21 : decode method_2_code 21 = .ok (.getstatic 14, 3) := by decide +kernel
theorem d1_24 : decode method_2_code 24 = .ok (.areturn, 1) := by decide +kernel
theorem d1_25 : decode method_2_code 25 = .ok (.iload_n 1, 1) := by decide +kernel
theorem d1_26 : decode method_2_code 26 = .ok (.iconst 2, 1) := by decide +kernel
theorem d1_27 : decode method_2_code 27 = .ok (.if_icmp .ne 7, 3) := by decide +kernel
theorem d1_30 : decode method_2_code 30 = .ok (.getstatic 17, 3) := by decide +kernel
theorem d1_33 : decode method_2_code 33 = .ok (.areturn, 1) := by decide +kernel
theorem d1_34 : decode method_2_code 34 = .ok (.iload_n 1, 1) := by decide +kernel
theorem d1_35 : decode method_2_code 35 = .ok (.iconst 3, 1) := by decide +kernel
theorem d1_36 : decode method_2_code 36 = .ok (.if_icmp .ne 7, 3) := by decide +kernel
theorem d1_39 : decode method_2_code 39 = .ok (.getstatic 20, 3) := by decide +kernel
theorem d1_42 : decode method_2_code 42 = .ok (.areturn, 1) := by decide +kernel
theorem d1_43 : decode method_2_code 43 = .ok (.iload_n 1, 1) := by decide +kernel
theorem d1_44 : decode method_2_code 44 = .ok (.iconst 4, 1) := by decide +kernel
theorem d1_45 : decode method_2_code 45 = .ok (.if_icmp .ne 7, 3) := by decide +kernel
theorem d1_48 : decode method_2_code 48 = .ok (.getstatic 23, 3) := by decide +kernel
theorem d1_51 : decode method_2_code 51 = .ok (.areturn, 1) := by decide +kernel
theorem d1_52 : decode method_2_code 52 = .ok (.getstatic 26, 3) := by decide +kernel
theorem d1_55 : decode method_2_code 55 = .ok (.areturn, 1) := by decide +kernel
theorem d2_0 : decode prog_16_method_5_code 0 = .ok (.aload_n 0, 1) := by decide +kernel
theorem d2_1 : decode prog_16_method_5_code 1 = .ok (.invokevirtual 45, 3) := by decide +kernel
theorem d2_4 : decode prog_16_method_5_code 4 = .ok (.tableswitch 56 2 5 #[32, 38, 44, 50], 32) := by decide +kernel
theorem d2_36 : decode prog_16_method_5_code 36 = .ok (.getstatic 16, 3) := by decide +kernel
theorem d2_39 : decode prog_16_method_5_code 39 = .ok (.goto 22, 3) := by decide +kernel
theorem d2_42 : decode prog_16_method_5_code 42 = .ok (.getstatic 19, 3) := by decide +kernel
theorem d2_45 : decode prog_16_method_5_code 45 = .ok (.goto 16, 3) := by decide +kernel
theorem d2_48 : decode prog_16_method_5_code 48 = .ok (.getstatic 10, 3) := by decide +kernel
theorem d2_51 : decode prog_16_method_5_code 51 = .ok (.goto 10, 3) := by decide +kernel
theorem d2_54 : decode prog_16_method_5_code 54 = .ok (.getstatic 13, 3) := by decide +kernel
theorem d2_57 : decode prog_16_method_5_code 57 = .ok (.goto 4, 3) := by decide +kernel
theorem d2_60 : decode prog_16_method_5_code 60 = .ok (.aload_n 0, 1) := by decide +kernel
theorem d2_61 : decode prog_16_method_5_code 61 = .ok (.areturn, 1) := by decide +kernel
theorem d3_0 : decode jdk_37_method_2_code 0 = .ok (.aload_n 0, 1) := by decide +kernel
theorem d3_1 : decode jdk_37_method_2_code 1 = .ok (.getfield 7, 3) := by decide +kernel
theorem d3_4 : decode jdk_37_method_2_code 4 = .ok (.ireturn, 1) := by decide +kernel
theorem d4_0 : decode method_3_code 0 = .ok (.aload_n 0, 1) := by decide +kernel
theorem d4_1 : decode method_3_code 1 = .ok (.getstatic 8, 3) := by decide +kernel
theorem d4_4 : decode method_3_code 4 = .ok (.if_acmp .ne 14, 3) := by decide +kernel
theorem d4_7 : decode method_3_code 7 = .ok (.iload_n 1, 1) := by decide +kernel
theorem d4_8 : decode method_3_code 8 = .ok (.iload_n 2, 1) := by decide +kernel
theorem d4_9 : decode method_3_code 9 = .ok (.if_icmp .ne 7, 3) := by decide +kernel
theorem d4_12 : decode method_3_code 12 = .ok (.iconst 1, 1) := by decide +kernel
theorem d4_13 : decode method_3_code 13 = .ok (.goto 4, 3) := by decide +kernel
theorem d4_16 : decode method_3_code 16 = .ok (.iconst 0, 1) := by decide +kernel
theorem d4_17 : decode method_3_code 17 = .ok (.ireturn, 1) := by decide +kernel
theorem d4_18 : decode method_3_code 18 = .ok (.aload_n 0, 1) := by decide +kernel
theorem d4_19 : decode method_3_code 19 = .ok (.getstatic 14, 3) := by decide +kernel
theorem d4_22 : decode method_3_code 22 = .ok (.if_acmp .ne 14, 3) := by decide +kernel
theorem d4_25 : decode method_3_code 25 = .ok (.iload_n 1, 1) := by decide +kernel
theorem d4_26 : decode method_3_code 26 = .ok (.iload_n 2, 1) := by decide +kernel
theorem d4_27 : decode method_3_code 27 = .ok (.if_icmp .eq 7, 3) := by decide +kernel
theorem d4_30 : decode method_3_code 30 = .ok (.iconst 1, 1) := by decide +kernel
theorem d4_31 : decode method_3_code 31 = .ok (.goto 4, 3) := by decide +kernel
theorem d4_34 : decode method_3_code 34 = .ok (.iconst 0, 1) := by decide +kernel
theorem d4_35 : decode method_3_code 35 = .ok (.ireturn, 1) := by decide +kernel
theorem d4_36 : decode method_3_code 36 = .ok (.aload_n 0, 1) := by decide +kernel
theorem d4_37 : decode method_3_code 37 = .ok (.getstatic 17, 3) := by decide +kernel
theorem d4_40 : decode method_3_code 40 = .ok (.if_acmp .ne 14, 3) := by decide +kernel
theorem d4_43 : decode method_3_code 43 = .ok (.iload_n 1, 1) := by decide +kernel
theorem d4_44 : decode method_3_code 44 = .ok (.iload_n 2, 1) := by decide +kernel
theorem d4_45 : decode method_3_code 45 = .ok (.if_icmp .ge 7, 3) := by decide +kernel
theorem d4_48 : decode method_3_code 48 = .ok (.iconst 1, 1) := by decide +kernel
theorem d4_49 : decode method_3_code 49 = .ok (.goto 4, 3) := by decide +kernel
theorem d4_52 : decode method_3_code 52 = .ok (.iconst 0, 1) := by decide +kernel
theorem d4_53 : decode method_3_code 53 = .ok (.ireturn, 1) := by decide +kernel
theorem d4_54 : decode method_3_code 54 = .ok (.aload_n 0, 1) := by decide +kernel
theorem d4_55 : decode method_3_code 55 = .ok (.getstatic 20, 3) := by decide +kernel
theorem d4_58 : decode method_3_code 58 = .ok (.if_acmp .ne 14, 3) := by decide +kernel
theorem d4_61 : decode method_3_code 61 = .ok (.iload_n 1, 1) := by decide +kernel
theorem d4_62 : decode method_3_code 62 = .ok (.iload_n 2, 1) := by decide +kernel
theorem d4_63 : decode method_3_code 63 = .ok (.if_icmp .gt 7, 3) := by decide +kernel
theorem d4_66 : decode method_3_code 66 = .ok (.iconst 1, 1) := by decide +kernel
theorem d4_67 : decode method_3_code 67 = .ok (.goto 4, 3) := by decide +kernel
theorem d4_70 : decode method_3_code 70 = .ok (.iconst 0, 1) := by decide +kernel
theorem d4_71 : decode method_3_code 71 = .ok (.ireturn, 1) := by decide +kernel
theorem d4_72 : decode method_3_code 72 = .ok (.aload_n 0, 1) := by decide +kernel
theorem d4_73 : decode method_3_code 73 = .ok (.getstatic 23, 3) := by decide +kernel
theorem d4_76 : decode method_3_code 76 = .ok (.if_acmp .ne 14, 3) := by decide +kernel
theorem d4_79 : decode method_3_code 79 = .ok (.iload_n 1, 1) := by decide +kernel
theorem d4_80 : decode method_3_code 80 = .ok (.iload_n 2, 1) := by decide +kernel
theorem d4_81 : decode method_3_code 81 = .ok (.if_icmp .le 7, 3) := by decide +kernel
theorem d4_84 : decode method_3_code 84 = .ok (.iconst 1, 1) := by decide +kernel
theorem d4_85 : decode method_3_code 85 = .ok (.goto 4, 3) := by decide +kernel
theorem d4_88 : decode method_3_code 88 = .ok (.iconst 0, 1) := by decide +kernel
theorem d4_89 : decode method_3_code 89 = .ok (.ireturn, 1) := by decide +kernel
theorem d4_90 : decode method_3_code 90 = .ok (.aload_n 0, 1) := by decide +kernel
theorem d4_91 : decode method_3_code 91 = .ok (.getstatic 26, 3) := by decide +kernel
theorem d4_94 : decode method_3_code 94 = .ok (.if_acmp .ne 14, 3) := by decide +kernel
theorem d4_97 : decode method_3_code 97 = .ok (.iload_n 1, 1) := by decide +kernel
theorem d4_98 : decode method_3_code 98 = .ok (.iload_n 2, 1) := by decide +kernel
theorem d4_99 : decode method_3_code 99 = .ok (.if_icmp .lt 7, 3) := by decide +kernel
theorem d4_102 : decode method_3_code 102 = .ok (.iconst 1, 1) := by decide +kernel
theorem d4_103 : decode method_3_code 103 = .ok (.goto 4, 3) := by decide +kernel
theorem d4_106 : decode method_3_code 106 = .ok (.iconst 0, 1) := by decide +kernel
theorem d4_107 : decode method_3_code 107 = .ok (.ireturn, 1) := by decide +kernel
theorem pd_0 : parseMethodDescriptor "(I)Lcom/example/annotable/annotable/PathQuery$Comparison;" = some ⟨[.int], some (.object "com/example/annotable/annotable/PathQuery$Comparison")⟩ := by decide +kernel
theorem pd_1 : parseMethodDescriptor "()I" = some ⟨[], some .int⟩ := by decide +kernel
theorem pd_2 : parseMethodDescriptor "()Lcom/example/annotable/annotable/PathQuery$Comparison;" = some ⟨[], some (.object "com/example/annotable/annotable/PathQuery$Comparison")⟩ := by decide +kernel
theorem pd_3 : parseMethodDescriptor "(Lcom/example/annotable/annotable/PathQuery$Comparison;II)Z" = some ⟨[(.object "com/example/annotable/annotable/PathQuery$Comparison"), .int, .int], some .boolean⟩ := by decide +kernel
theorem pn_com_example_annotable_annotable_ComparisonSwappedPinLaw : plainName "com/example/annotable/annotable/ComparisonSwappedPinLaw" = true := by first | (simp [plainName, overriddenIn]; done) | decide +kernel
theorem pn_com_example_annotable_annotable_PathQuery_Comparison : plainName "com/example/annotable/annotable/PathQuery$Comparison" = true := by first | (simp [plainName, overriddenIn]; done) | decide +kernel
theorem pn_java_lang_Enum : plainName "java/lang/Enum" = true := by first | (simp [plainName, overriddenIn]; done) | decide +kernel
theorem ef_0 (m : MethodId) (x0 : Int32) : entryFrame m #[(.int x0)] 2 = mkF m 0 #[.val (.int x0), .unset] [] := by first | (simp [entryFrame, mkF, argsToLocals, Value.category]; done) | rfl
theorem ef_1 (m : MethodId) (x0 : Addr) : entryFrame m #[(.ref x0)] 1 = mkF m 0 #[.val (.ref x0)] [] := by first | (simp [entryFrame, mkF, argsToLocals, Value.category]; done) | rfl
theorem ef_2 (m : MethodId) (x0 : Addr) (x1 : Int32) (x2 : Int32) : entryFrame m #[(.ref x0), (.int x1), (.int x2)] 3 = mkF m 0 #[.val (.ref x0), .val (.int x1), .val (.int x2)] [] := by first | (simp [entryFrame, mkF, argsToLocals, Value.category]; done) | rfl
theorem ef_3 (m : MethodId) (x0 : Int32) (x1 : Int32) (x2 : Int32) (x3 : Int32) : entryFrame m #[(.int x0), (.int x1), (.int x2), (.int x3)] maxLocals = mkF m 0 #[.val (.int x0), .val (.int x1), .val (.int x2), .val (.int x3), .unset, .unset, .unset, .unset, .unset] [] := by first | (simp [entryFrame, mkF, argsToLocals, Value.category, maxLocals]; done) | rfl
set_option maxRecDepth 65536 in
set_option maxHeartbeats 40000000 in
theorem rm1_0 (l : Launch) {Z : State} {a0 : Array Value} (H : Hyp Z a0) (p1 : Int32) (h0 : Heap) (Ol : Old Z Z.heap.size h0) :
    Mt l Z (⟨"com/example/annotable/annotable/ComparisonSwappedPinLaw", "pick", "(I)Lcom/example/annotable/annotable/PathQuery$Comparison;"⟩ : MethodName) method_2_code 2 (some (.object "com/example/annotable/annotable/PathQuery$Comparison")) [] ({ frames := 0, cells := 0, slots := 0, locals := 0 } : Room) #[(.int p1)] h0 (fun v h L => (((p1 &&& (2147483647 : Int32)) % (6 : Int32)) = (0 : Int32) ∧ v = some (.ref (ad0 Z a0)) ∧ Fr Z.heap.size L ∧ h = h0) ∨ (((p1 &&& (2147483647 : Int32)) % (6 : Int32)) = (1 : Int32) ∧ v = some (.ref (ad1 Z a0)) ∧ Fr Z.heap.size L ∧ h = h0) ∨ (((p1 &&& (2147483647 : Int32)) % (6 : Int32)) = (2 : Int32) ∧ v = some (.ref (ad3 Z a0)) ∧ Fr Z.heap.size L ∧ h = h0) ∨ (((p1 &&& (2147483647 : Int32)) % (6 : Int32)) = (3 : Int32) ∧ v = some (.ref (ad4 Z a0)) ∧ Fr Z.heap.size L ∧ h = h0) ∨ (((p1 &&& (2147483647 : Int32)) % (6 : Int32)) = (4 : Int32) ∧ v = some (.ref (ad2 Z a0)) ∧ Fr Z.heap.size L ∧ h = h0) ∨ (((p1 &&& (2147483647 : Int32)) % (6 : Int32)) = (5 : Int32) ∧ v = some (.ref (ad5 Z a0)) ∧ Fr Z.heap.size L ∧ h = h0)) := by
  refine g_body (plainFor_of_name pn_com_example_annotable_annotable_ComparisonSwappedPinLaw) ?_
  intro p e s m below meth c T0 K X0 e0
  refine g_entry (ef_0 m p1) ?_
  have N0 : Fr Z.heap.size [] := Fr.nil _
  have Ol0 := Ol
  have Kp0 : Keep h0 h0 [] := Keep.refl h0 _
  refine g_iloadN X0 K (q := 1) d1_0 rfl rfl ?_
  refine g_ldc X0 K (q := 3) (w4 H) d1_1 rfl ?_
  refine g_iand X0 K (q := 4) d1_3 rfl rfl ?_
  refine g_bipush X0 K (q := 6) (v := (6 : Int32)) d1_4 (by decide) rfl ?_
  rcases own_sp6 p1 with hs1 | hs1 | hs1 | hs1 | hs1 | hs1
  · refine g_irem X0 K (q := 7) (z := (0 : Int32)) d1_6 (by decide) hs1 rfl ?_
    refine g_istoreN X0 K (q := 8) (L' := #[.val (.int p1), .val (.int (0 : Int32))]) d1_7 rfl rfl ?_
    refine g_iloadN X0 K (q := 9) d1_8 rfl rfl ?_
    refine g_ifN X0 K (q := 12) d1_9 (by decide) rfl ?_
    refine g_gets X0 K (q := 15) (w5 H) e0 ((s0 H).ext Ol0.2) d1_12 rfl ?_
    intro T1 X1 e1
    refine g_aret X1 K rfl rfl rfl d1_15 (by decide) (by decide) ?_
    exact Or.inl (⟨hs1, rfl, N0, e1⟩)
  · refine g_irem X0 K (q := 7) (z := (1 : Int32)) d1_6 (by decide) hs1 rfl ?_
    refine g_istoreN X0 K (q := 8) (L' := #[.val (.int p1), .val (.int (1 : Int32))]) d1_7 rfl rfl ?_
    refine g_iloadN X0 K (q := 9) d1_8 rfl rfl ?_
    refine g_ifY X0 K (q := 16) d1_9 (by decide) (by decide) (by decide) ?_
    refine g_iloadN X0 K (q := 17) d1_16 rfl rfl ?_
    refine g_iconst X0 K (q := 18) (v := (1 : Int32)) d1_17 (by decide) rfl ?_
    refine g_icN X0 K (q := 21) d1_18 (by decide) rfl ?_
    refine g_gets X0 K (q := 24) (w25 H) e0 ((s1 H).ext Ol0.2) d1_21 rfl ?_
    intro T2 X2 e2
    refine g_aret X2 K rfl rfl rfl d1_24 (by decide) (by decide) ?_
    exact Or.inr (Or.inl (⟨hs1, rfl, N0, e2⟩))
  · refine g_irem X0 K (q := 7) (z := (2 : Int32)) d1_6 (by decide) hs1 rfl ?_
    refine g_istoreN X0 K (q := 8) (L' := #[.val (.int p1), .val (.int (2 : Int32))]) d1_7 rfl rfl ?_
    refine g_iloadN X0 K (q := 9) d1_8 rfl rfl ?_
    refine g_ifY X0 K (q := 16) d1_9 (by decide) (by decide) (by decide) ?_
    refine g_iloadN X0 K (q := 17) d1_16 rfl rfl ?_
    refine g_iconst X0 K (q := 18) (v := (1 : Int32)) d1_17 (by decide) rfl ?_
    refine g_icY X0 K (q := 25) d1_18 (by decide) (by decide) (by decide) ?_
    refine g_iloadN X0 K (q := 26) d1_25 rfl rfl ?_
    refine g_iconst X0 K (q := 27) (v := (2 : Int32)) d1_26 (by decide) rfl ?_
    refine g_icN X0 K (q := 30) d1_27 (by decide) rfl ?_
    refine g_gets X0 K (q := 33) (w31 H) e0 ((s3 H).ext Ol0.2) d1_30 rfl ?_
    intro T3 X3 e3
    refine g_aret X3 K rfl rfl rfl d1_33 (by decide) (by decide) ?_
    exact Or.inr (Or.inr (Or.inl (⟨hs1, rfl, N0, e3⟩)))
  · refine g_irem X0 K (q := 7) (z := (3 : Int32)) d1_6 (by decide) hs1 rfl ?_
    refine g_istoreN X0 K (q := 8) (L' := #[.val (.int p1), .val (.int (3 : Int32))]) d1_7 rfl rfl ?_
    refine g_iloadN X0 K (q := 9) d1_8 rfl rfl ?_
    refine g_ifY X0 K (q := 16) d1_9 (by decide) (by decide) (by decide) ?_
    refine g_iloadN X0 K (q := 17) d1_16 rfl rfl ?_
    refine g_iconst X0 K (q := 18) (v := (1 : Int32)) d1_17 (by decide) rfl ?_
    refine g_icY X0 K (q := 25) d1_18 (by decide) (by decide) (by decide) ?_
    refine g_iloadN X0 K (q := 26) d1_25 rfl rfl ?_
    refine g_iconst X0 K (q := 27) (v := (2 : Int32)) d1_26 (by decide) rfl ?_
    refine g_icY X0 K (q := 34) d1_27 (by decide) (by decide) (by decide) ?_
    refine g_iloadN X0 K (q := 35) d1_34 rfl rfl ?_
    refine g_iconst X0 K (q := 36) (v := (3 : Int32)) d1_35 (by decide) rfl ?_
    refine g_icN X0 K (q := 39) d1_36 (by decide) rfl ?_
    refine g_gets X0 K (q := 42) (w32 H) e0 ((s4 H).ext Ol0.2) d1_39 rfl ?_
    intro T4 X4 e4
    refine g_aret X4 K rfl rfl rfl d1_42 (by decide) (by decide) ?_
    exact Or.inr (Or.inr (Or.inr (Or.inl (⟨hs1, rfl, N0, e4⟩))))
  · refine g_irem X0 K (q := 7) (z := (4 : Int32)) d1_6 (by decide) hs1 rfl ?_
    refine g_istoreN X0 K (q := 8) (L' := #[.val (.int p1), .val (.int (4 : Int32))]) d1_7 rfl rfl ?_
    refine g_iloadN X0 K (q := 9) d1_8 rfl rfl ?_
    refine g_ifY X0 K (q := 16) d1_9 (by decide) (by decide) (by decide) ?_
    refine g_iloadN X0 K (q := 17) d1_16 rfl rfl ?_
    refine g_iconst X0 K (q := 18) (v := (1 : Int32)) d1_17 (by decide) rfl ?_
    refine g_icY X0 K (q := 25) d1_18 (by decide) (by decide) (by decide) ?_
    refine g_iloadN X0 K (q := 26) d1_25 rfl rfl ?_
    refine g_iconst X0 K (q := 27) (v := (2 : Int32)) d1_26 (by decide) rfl ?_
    refine g_icY X0 K (q := 34) d1_27 (by decide) (by decide) (by decide) ?_
    refine g_iloadN X0 K (q := 35) d1_34 rfl rfl ?_
    refine g_iconst X0 K (q := 36) (v := (3 : Int32)) d1_35 (by decide) rfl ?_
    refine g_icY X0 K (q := 43) d1_36 (by decide) (by decide) (by decide) ?_
    refine g_iloadN X0 K (q := 44) d1_43 rfl rfl ?_
    refine g_iconst X0 K (q := 45) (v := (4 : Int32)) d1_44 (by decide) rfl ?_
    refine g_icN X0 K (q := 48) d1_45 (by decide) rfl ?_
    refine g_gets X0 K (q := 51) (w27 H) e0 ((s2 H).ext Ol0.2) d1_48 rfl ?_
    intro T5 X5 e5
    refine g_aret X5 K rfl rfl rfl d1_51 (by decide) (by decide) ?_
    exact Or.inr (Or.inr (Or.inr (Or.inr (Or.inl (⟨hs1, rfl, N0, e5⟩)))))
  · refine g_irem X0 K (q := 7) (z := (5 : Int32)) d1_6 (by decide) hs1 rfl ?_
    refine g_istoreN X0 K (q := 8) (L' := #[.val (.int p1), .val (.int (5 : Int32))]) d1_7 rfl rfl ?_
    refine g_iloadN X0 K (q := 9) d1_8 rfl rfl ?_
    refine g_ifY X0 K (q := 16) d1_9 (by decide) (by decide) (by decide) ?_
    refine g_iloadN X0 K (q := 17) d1_16 rfl rfl ?_
    refine g_iconst X0 K (q := 18) (v := (1 : Int32)) d1_17 (by decide) rfl ?_
    refine g_icY X0 K (q := 25) d1_18 (by decide) (by decide) (by decide) ?_
    refine g_iloadN X0 K (q := 26) d1_25 rfl rfl ?_
    refine g_iconst X0 K (q := 27) (v := (2 : Int32)) d1_26 (by decide) rfl ?_
    refine g_icY X0 K (q := 34) d1_27 (by decide) (by decide) (by decide) ?_
    refine g_iloadN X0 K (q := 35) d1_34 rfl rfl ?_
    refine g_iconst X0 K (q := 36) (v := (3 : Int32)) d1_35 (by decide) rfl ?_
    refine g_icY X0 K (q := 43) d1_36 (by decide) (by decide) (by decide) ?_
    refine g_iloadN X0 K (q := 44) d1_43 rfl rfl ?_
    refine g_iconst X0 K (q := 45) (v := (4 : Int32)) d1_44 (by decide) rfl ?_
    refine g_icY X0 K (q := 52) d1_45 (by decide) (by decide) (by decide) ?_
    refine g_gets X0 K (q := 55) (w37 H) e0 ((s5 H).ext Ol0.2) d1_52 rfl ?_
    intro T6 X6 e6
    refine g_aret X6 K rfl rfl rfl d1_55 (by decide) (by decide) ?_
    exact Or.inr (Or.inr (Or.inr (Or.inr (Or.inr (⟨hs1, rfl, N0, e6⟩)))))
set_option maxRecDepth 65536 in
set_option maxHeartbeats 40000000 in
theorem rm3_1 (l : Launch) {Z : State} {a0 : Array Value} (H : Hyp Z a0) (h0 : Heap) (Ol : Old Z Z.heap.size h0) :
    Mt l Z (⟨"java/lang/Enum", "ordinal", "()I"⟩ : MethodName) jdk_37_method_2_code 1 (some .int) [] ({ frames := 0, cells := 0, slots := 0, locals := 0 } : Room) #[(.ref (ad0 Z a0))] h0 (fun v h L => (v = some (.int (0 : Int32)) ∧ Fr Z.heap.size L ∧ h = h0)) := by
  refine g_body (plainFor_of_name pn_java_lang_Enum) ?_
  intro p e s m below meth c T0 K X0 e0
  refine g_entry (ef_1 m (ad0 Z a0)) ?_
  have N0 : Fr Z.heap.size [] := Fr.nil _
  have Ol0 := Ol
  have Kp0 : Keep h0 h0 [] := Keep.refl h0 _
  refine g_aloadN X0 K (q := 1) d3_0 rfl rfl rfl ?_
  refine g_getf X0 K (q := 4) (w20 H) Via.refl e0 ((f0_ordinal H).ext Ol0.2) d3_1 rfl ?_
  intro T1 X1 e1
  refine g_iret X1 K d3_4 (by decide) (by decide) ?_
  exact ⟨rfl, N0, e1⟩
set_option maxRecDepth 65536 in
set_option maxHeartbeats 40000000 in
theorem rm2_2 (l : Launch) {Z : State} {a0 : Array Value} (H : Hyp Z a0) (h0 : Heap) (Ol : Old Z Z.heap.size h0) :
    Mt l Z (⟨"com/example/annotable/annotable/PathQuery$Comparison", "swapped", "()Lcom/example/annotable/annotable/PathQuery$Comparison;"⟩ : MethodName) prog_16_method_5_code 1 (some (.object "com/example/annotable/annotable/PathQuery$Comparison")) [] ({ frames := 1, cells := 0, slots := 0, locals := 12 } : Room) #[(.ref (ad0 Z a0))] h0 (fun v h L => (v = some (.ref (ad0 Z a0)) ∧ Fr Z.heap.size L ∧ h = h0)) := by
  refine g_body (plainFor_of_name pn_com_example_annotable_annotable_PathQuery_Comparison) ?_
  intro p e s m below meth c T0 K X0 e0
  refine g_entry (ef_1 m (ad0 Z a0)) ?_
  have N0 : Fr Z.heap.size [] := Fr.nil _
  have Ol0 := Ol
  have Kp0 : Keep h0 h0 [] := Keep.refl h0 _
  refine g_aloadN X0 K (q := 1) d2_0 rfl rfl rfl ?_
  refine g_virtualUp X0 K (q := 4) (W := 0) (a := (ad0 Z a0)) (w13 H) (w14 H) (w15 H) (by decide) (w17 H) (w16 H) (w18 H) (w19 H) (rm3_1 l H h0 Ol0) e0 ((x0 H).ext Ol0.2) rfl (argsL := []) (rest := []) (lenOf pd_1 rfl) rfl rfl (Nat.le_of_eq rfl) d2_1 (by decide) (by decide) (by decide) (by decide) rfl ?_
  rintro T1 v1 L1 X1 ⟨rfl, N1q, e1⟩
  have N1 := Fr.app N0 N1q
  show Go p e below _ T1 (mkF m 4 #[.val (.ref (ad0 Z a0))] [(.int (0 : Int32))])
  refine g_tswOut X1 K (q := 60) (i := (0 : Int32)) d2_4 (by decide) (by decide) (by decide) ?_
  refine g_aloadN X1 K (q := 61) d2_60 rfl rfl rfl ?_
  refine g_aret X1 K rfl rfl rfl d2_61 (by decide) (by decide) ?_
  exact ⟨rfl, N1, e1⟩
set_option maxRecDepth 65536 in
set_option maxHeartbeats 40000000 in
theorem rm4_3 (l : Launch) {Z : State} {a0 : Array Value} (H : Hyp Z a0) (p1 : Int32) (p2 : Int32) (h0 : Heap) (Ol : Old Z Z.heap.size h0) :
    Mt l Z (⟨"com/example/annotable/annotable/ComparisonSwappedPinLaw", "holds", "(Lcom/example/annotable/annotable/PathQuery$Comparison;II)Z"⟩ : MethodName) method_3_code 3 (some .boolean) [] ({ frames := 0, cells := 0, slots := 0, locals := 0 } : Room) #[(.ref (ad0 Z a0)), (.int p1), (.int p2)] h0 (fun v h L => (p1 = p2 ∧ v = some (.int (1 : Int32)) ∧ Fr Z.heap.size L ∧ h = h0) ∨ (¬ (p1 = p2) ∧ v = some (.int (0 : Int32)) ∧ Fr Z.heap.size L ∧ h = h0)) := by
  refine g_body (plainFor_of_name pn_com_example_annotable_annotable_ComparisonSwappedPinLaw) ?_
  intro p e s m below meth c T0 K X0 e0
  refine g_entry (ef_2 m (ad0 Z a0) p1 p2) ?_
  have N0 : Fr Z.heap.size [] := Fr.nil _
  have Ol0 := Ol
  have Kp0 : Keep h0 h0 [] := Keep.refl h0 _
  refine g_aloadN X0 K (q := 1) d4_0 rfl rfl rfl ?_
  refine g_gets X0 K (q := 4) (w5 H) e0 ((s0 H).ext Ol0.2) d4_1 rfl ?_
  intro T1 X1 e1
  refine g_ac X1 K (q := 7) (same := true) d4_4 rfl rfl (decide_eq_true rfl) (by decide) (by decide) ?_
  refine g_iloadN X1 K (q := 8) d4_7 rfl rfl ?_
  refine g_iloadN X1 K (q := 9) d4_8 rfl rfl ?_
  by_cases hc1 : p1 = p2
  · refine g_icN X1 K (q := 12) d4_9 (teq hc1).2 rfl ?_
    refine g_iconst X1 K (q := 13) (v := (1 : Int32)) d4_12 (by decide) rfl ?_
    refine g_goto X1 K (q := 17) d4_13 (by decide) (by decide) ?_
    refine g_nret X1 K (by simp) (z' := (1 : Int32)) (by decide) d4_17 (by decide) (by decide) ?_
    exact Or.inl (⟨hc1, rfl, N0, e1⟩)
  · refine g_icY X1 K (q := 16) d4_9 (feq hc1).2 (by decide) (by decide) ?_
    refine g_iconst X1 K (q := 17) (v := (0 : Int32)) d4_16 (by decide) rfl ?_
    refine g_nret X1 K (by simp) (z' := (0 : Int32)) (by decide) d4_17 (by decide) (by decide) ?_
    exact Or.inr (⟨hc1, rfl, N0, e1⟩)
set_option maxRecDepth 65536 in
set_option maxHeartbeats 40000000 in
theorem rm4_4 (l : Launch) {Z : State} {a0 : Array Value} (H : Hyp Z a0) (p1 : Int32) (p2 : Int32) (h0 : Heap) (Ol : Old Z Z.heap.size h0) (hc_1 : p1 = p2) :
    Mt l Z (⟨"com/example/annotable/annotable/ComparisonSwappedPinLaw", "holds", "(Lcom/example/annotable/annotable/PathQuery$Comparison;II)Z"⟩ : MethodName) method_3_code 3 (some .boolean) [] ({ frames := 0, cells := 0, slots := 0, locals := 0 } : Room) #[(.ref (ad0 Z a0)), (.int p1), (.int p2)] h0 (fun v h L => (v = some (.int (1 : Int32)) ∧ Fr Z.heap.size L ∧ h = h0)) := by
  refine g_body (plainFor_of_name pn_com_example_annotable_annotable_ComparisonSwappedPinLaw) ?_
  intro p e s m below meth c T0 K X0 e0
  refine g_entry (ef_2 m (ad0 Z a0) p1 p2) ?_
  have N0 : Fr Z.heap.size [] := Fr.nil _
  have Ol0 := Ol
  have Kp0 : Keep h0 h0 [] := Keep.refl h0 _
  refine g_aloadN X0 K (q := 1) d4_0 rfl rfl rfl ?_
  refine g_gets X0 K (q := 4) (w5 H) e0 ((s0 H).ext Ol0.2) d4_1 rfl ?_
  intro T1 X1 e1
  refine g_ac X1 K (q := 7) (same := true) d4_4 rfl rfl (decide_eq_true rfl) (by decide) (by decide) ?_
  refine g_iloadN X1 K (q := 8) d4_7 rfl rfl ?_
  refine g_iloadN X1 K (q := 9) d4_8 rfl rfl ?_
  refine g_icN X1 K (q := 12) d4_9 (teq hc_1).2 rfl ?_
  refine g_iconst X1 K (q := 13) (v := (1 : Int32)) d4_12 (by decide) rfl ?_
  refine g_goto X1 K (q := 17) d4_13 (by decide) (by decide) ?_
  refine g_nret X1 K (by simp) (z' := (1 : Int32)) (by decide) d4_17 (by decide) (by decide) ?_
  exact ⟨rfl, N0, e1⟩
set_option maxRecDepth 65536 in
set_option maxHeartbeats 40000000 in
theorem rm4_5 (l : Launch) {Z : State} {a0 : Array Value} (H : Hyp Z a0) (p1 : Int32) (p2 : Int32) (h0 : Heap) (Ol : Old Z Z.heap.size h0) (hc_1 : ¬ (p1 = p2)) :
    Mt l Z (⟨"com/example/annotable/annotable/ComparisonSwappedPinLaw", "holds", "(Lcom/example/annotable/annotable/PathQuery$Comparison;II)Z"⟩ : MethodName) method_3_code 3 (some .boolean) [] ({ frames := 0, cells := 0, slots := 0, locals := 0 } : Room) #[(.ref (ad0 Z a0)), (.int p1), (.int p2)] h0 (fun v h L => (v = some (.int (0 : Int32)) ∧ Fr Z.heap.size L ∧ h = h0)) := by
  refine g_body (plainFor_of_name pn_com_example_annotable_annotable_ComparisonSwappedPinLaw) ?_
  intro p e s m below meth c T0 K X0 e0
  refine g_entry (ef_2 m (ad0 Z a0) p1 p2) ?_
  have N0 : Fr Z.heap.size [] := Fr.nil _
  have Ol0 := Ol
  have Kp0 : Keep h0 h0 [] := Keep.refl h0 _
  refine g_aloadN X0 K (q := 1) d4_0 rfl rfl rfl ?_
  refine g_gets X0 K (q := 4) (w5 H) e0 ((s0 H).ext Ol0.2) d4_1 rfl ?_
  intro T1 X1 e1
  refine g_ac X1 K (q := 7) (same := true) d4_4 rfl rfl (decide_eq_true rfl) (by decide) (by decide) ?_
  refine g_iloadN X1 K (q := 8) d4_7 rfl rfl ?_
  refine g_iloadN X1 K (q := 9) d4_8 rfl rfl ?_
  refine g_icY X1 K (q := 16) d4_9 (feq hc_1).2 (by decide) (by decide) ?_
  refine g_iconst X1 K (q := 17) (v := (0 : Int32)) d4_16 (by decide) rfl ?_
  refine g_nret X1 K (by simp) (z' := (0 : Int32)) (by decide) d4_17 (by decide) (by decide) ?_
  exact ⟨rfl, N0, e1⟩
set_option maxRecDepth 65536 in
set_option maxHeartbeats 40000000 in
theorem rm3_6 (l : Launch) {Z : State} {a0 : Array Value} (H : Hyp Z a0) (h0 : Heap) (Ol : Old Z Z.heap.size h0) :
    Mt l Z (⟨"java/lang/Enum", "ordinal", "()I"⟩ : MethodName) jdk_37_method_2_code 1 (some .int) [] ({ frames := 0, cells := 0, slots := 0, locals := 0 } : Room) #[(.ref (ad1 Z a0))] h0 (fun v h L => (v = some (.int (1 : Int32)) ∧ Fr Z.heap.size L ∧ h = h0)) := by
  refine g_body (plainFor_of_name pn_java_lang_Enum) ?_
  intro p e s m below meth c T0 K X0 e0
  refine g_entry (ef_1 m (ad1 Z a0)) ?_
  have N0 : Fr Z.heap.size [] := Fr.nil _
  have Ol0 := Ol
  have Kp0 : Keep h0 h0 [] := Keep.refl h0 _
  refine g_aloadN X0 K (q := 1) d3_0 rfl rfl rfl ?_
  refine g_getf X0 K (q := 4) (w20 H) Via.refl e0 ((f1_ordinal H).ext Ol0.2) d3_1 rfl ?_
  intro T1 X1 e1
  refine g_iret X1 K d3_4 (by decide) (by decide) ?_
  exact ⟨rfl, N0, e1⟩
set_option maxRecDepth 65536 in
set_option maxHeartbeats 40000000 in
theorem rm2_7 (l : Launch) {Z : State} {a0 : Array Value} (H : Hyp Z a0) (h0 : Heap) (Ol : Old Z Z.heap.size h0) :
    Mt l Z (⟨"com/example/annotable/annotable/PathQuery$Comparison", "swapped", "()Lcom/example/annotable/annotable/PathQuery$Comparison;"⟩ : MethodName) prog_16_method_5_code 1 (some (.object "com/example/annotable/annotable/PathQuery$Comparison")) [] ({ frames := 1, cells := 0, slots := 0, locals := 12 } : Room) #[(.ref (ad1 Z a0))] h0 (fun v h L => (v = some (.ref (ad1 Z a0)) ∧ Fr Z.heap.size L ∧ h = h0)) := by
  refine g_body (plainFor_of_name pn_com_example_annotable_annotable_PathQuery_Comparison) ?_
  intro p e s m below meth c T0 K X0 e0
  refine g_entry (ef_1 m (ad1 Z a0)) ?_
  have N0 : Fr Z.heap.size [] := Fr.nil _
  have Ol0 := Ol
  have Kp0 : Keep h0 h0 [] := Keep.refl h0 _
  refine g_aloadN X0 K (q := 1) d2_0 rfl rfl rfl ?_
  refine g_virtualUp X0 K (q := 4) (W := 0) (a := (ad1 Z a0)) (w13 H) (w14 H) (w15 H) (by decide) (w17 H) (w16 H) (w18 H) (w19 H) (rm3_6 l H h0 Ol0) e0 ((x1 H).ext Ol0.2) rfl (argsL := []) (rest := []) (lenOf pd_1 rfl) rfl rfl (Nat.le_of_eq rfl) d2_1 (by decide) (by decide) (by decide) (by decide) rfl ?_
  rintro T1 v1 L1 X1 ⟨rfl, N1q, e1⟩
  have N1 := Fr.app N0 N1q
  show Go p e below _ T1 (mkF m 4 #[.val (.ref (ad1 Z a0))] [(.int (1 : Int32))])
  refine g_tswOut X1 K (q := 60) (i := (1 : Int32)) d2_4 (by decide) (by decide) (by decide) ?_
  refine g_aloadN X1 K (q := 61) d2_60 rfl rfl rfl ?_
  refine g_aret X1 K rfl rfl rfl d2_61 (by decide) (by decide) ?_
  exact ⟨rfl, N1, e1⟩
set_option maxRecDepth 65536 in
set_option maxHeartbeats 40000000 in
theorem rm4_8 (l : Launch) {Z : State} {a0 : Array Value} (H : Hyp Z a0) (p1 : Int32) (p2 : Int32) (h0 : Heap) (Ol : Old Z Z.heap.size h0) :
    Mt l Z (⟨"com/example/annotable/annotable/ComparisonSwappedPinLaw", "holds", "(Lcom/example/annotable/annotable/PathQuery$Comparison;II)Z"⟩ : MethodName) method_3_code 3 (some .boolean) [] ({ frames := 0, cells := 0, slots := 0, locals := 0 } : Room) #[(.ref (ad1 Z a0)), (.int p1), (.int p2)] h0 (fun v h L => (p1 = p2 ∧ v = some (.int (0 : Int32)) ∧ Fr Z.heap.size L ∧ h = h0) ∨ (¬ (p1 = p2) ∧ v = some (.int (1 : Int32)) ∧ Fr Z.heap.size L ∧ h = h0)) := by
  refine g_body (plainFor_of_name pn_com_example_annotable_annotable_ComparisonSwappedPinLaw) ?_
  intro p e s m below meth c T0 K X0 e0
  refine g_entry (ef_2 m (ad1 Z a0) p1 p2) ?_
  have N0 : Fr Z.heap.size [] := Fr.nil _
  have Ol0 := Ol
  have Kp0 : Keep h0 h0 [] := Keep.refl h0 _
  refine g_aloadN X0 K (q := 1) d4_0 rfl rfl rfl ?_
  refine g_gets X0 K (q := 4) (w5 H) e0 ((s0 H).ext Ol0.2) d4_1 rfl ?_
  intro T1 X1 e1
  refine g_ac X1 K (q := 18) (same := false) d4_4 rfl rfl (decide_eq_false fun q => (Fld.ne (f1_ordinal H) (f0_ordinal H) (by simp)) (Value.ref.inj q)) (by decide) (by decide) ?_
  refine g_aloadN X1 K (q := 19) d4_18 rfl rfl rfl ?_
  refine g_gets X1 K (q := 22) (w25 H) e1 ((s1 H).ext Ol0.2) d4_19 rfl ?_
  intro T2 X2 e2
  refine g_ac X2 K (q := 25) (same := true) d4_22 rfl rfl (decide_eq_true rfl) (by decide) (by decide) ?_
  refine g_iloadN X2 K (q := 26) d4_25 rfl rfl ?_
  refine g_iloadN X2 K (q := 27) d4_26 rfl rfl ?_
  by_cases hc1 : p1 = p2
  · refine g_icY X2 K (q := 34) d4_27 (teq hc1).1 (by decide) (by decide) ?_
    refine g_iconst X2 K (q := 35) (v := (0 : Int32)) d4_34 (by decide) rfl ?_
    refine g_nret X2 K (by simp) (z' := (0 : Int32)) (by decide) d4_35 (by decide) (by decide) ?_
    exact Or.inl (⟨hc1, rfl, N0, e2⟩)
  · refine g_icN X2 K (q := 30) d4_27 (feq hc1).1 rfl ?_
    refine g_iconst X2 K (q := 31) (v := (1 : Int32)) d4_30 (by decide) rfl ?_
    refine g_goto X2 K (q := 35) d4_31 (by decide) (by decide) ?_
    refine g_nret X2 K (by simp) (z' := (1 : Int32)) (by decide) d4_35 (by decide) (by decide) ?_
    exact Or.inr (⟨hc1, rfl, N0, e2⟩)
set_option maxRecDepth 65536 in
set_option maxHeartbeats 40000000 in
theorem rm4_9 (l : Launch) {Z : State} {a0 : Array Value} (H : Hyp Z a0) (p1 : Int32) (p2 : Int32) (h0 : Heap) (Ol : Old Z Z.heap.size h0) (hc_1 : p1 = p2) :
    Mt l Z (⟨"com/example/annotable/annotable/ComparisonSwappedPinLaw", "holds", "(Lcom/example/annotable/annotable/PathQuery$Comparison;II)Z"⟩ : MethodName) method_3_code 3 (some .boolean) [] ({ frames := 0, cells := 0, slots := 0, locals := 0 } : Room) #[(.ref (ad1 Z a0)), (.int p1), (.int p2)] h0 (fun v h L => (v = some (.int (0 : Int32)) ∧ Fr Z.heap.size L ∧ h = h0)) := by
  refine g_body (plainFor_of_name pn_com_example_annotable_annotable_ComparisonSwappedPinLaw) ?_
  intro p e s m below meth c T0 K X0 e0
  refine g_entry (ef_2 m (ad1 Z a0) p1 p2) ?_
  have N0 : Fr Z.heap.size [] := Fr.nil _
  have Ol0 := Ol
  have Kp0 : Keep h0 h0 [] := Keep.refl h0 _
  refine g_aloadN X0 K (q := 1) d4_0 rfl rfl rfl ?_
  refine g_gets X0 K (q := 4) (w5 H) e0 ((s0 H).ext Ol0.2) d4_1 rfl ?_
  intro T1 X1 e1
  refine g_ac X1 K (q := 18) (same := false) d4_4 rfl rfl (decide_eq_false fun q => (Fld.ne (f1_ordinal H) (f0_ordinal H) (by simp)) (Value.ref.inj q)) (by decide) (by decide) ?_
  refine g_aloadN X1 K (q := 19) d4_18 rfl rfl rfl ?_
  refine g_gets X1 K (q := 22) (w25 H) e1 ((s1 H).ext Ol0.2) d4_19 rfl ?_
  intro T2 X2 e2
  refine g_ac X2 K (q := 25) (same := true) d4_22 rfl rfl (decide_eq_true rfl) (by decide) (by decide) ?_
  refine g_iloadN X2 K (q := 26) d4_25 rfl rfl ?_
  refine g_iloadN X2 K (q := 27) d4_26 rfl rfl ?_
  refine g_icY X2 K (q := 34) d4_27 (teq hc_1).1 (by decide) (by decide) ?_
  refine g_iconst X2 K (q := 35) (v := (0 : Int32)) d4_34 (by decide) rfl ?_
  refine g_nret X2 K (by simp) (z' := (0 : Int32)) (by decide) d4_35 (by decide) (by decide) ?_
  exact ⟨rfl, N0, e2⟩
set_option maxRecDepth 65536 in
set_option maxHeartbeats 40000000 in
theorem rm4_10 (l : Launch) {Z : State} {a0 : Array Value} (H : Hyp Z a0) (p1 : Int32) (p2 : Int32) (h0 : Heap) (Ol : Old Z Z.heap.size h0) (hc_1 : ¬ (p1 = p2)) :
    Mt l Z (⟨"com/example/annotable/annotable/ComparisonSwappedPinLaw", "holds", "(Lcom/example/annotable/annotable/PathQuery$Comparison;II)Z"⟩ : MethodName) method_3_code 3 (some .boolean) [] ({ frames := 0, cells := 0, slots := 0, locals := 0 } : Room) #[(.ref (ad1 Z a0)), (.int p1), (.int p2)] h0 (fun v h L => (v = some (.int (1 : Int32)) ∧ Fr Z.heap.size L ∧ h = h0)) := by
  refine g_body (plainFor_of_name pn_com_example_annotable_annotable_ComparisonSwappedPinLaw) ?_
  intro p e s m below meth c T0 K X0 e0
  refine g_entry (ef_2 m (ad1 Z a0) p1 p2) ?_
  have N0 : Fr Z.heap.size [] := Fr.nil _
  have Ol0 := Ol
  have Kp0 : Keep h0 h0 [] := Keep.refl h0 _
  refine g_aloadN X0 K (q := 1) d4_0 rfl rfl rfl ?_
  refine g_gets X0 K (q := 4) (w5 H) e0 ((s0 H).ext Ol0.2) d4_1 rfl ?_
  intro T1 X1 e1
  refine g_ac X1 K (q := 18) (same := false) d4_4 rfl rfl (decide_eq_false fun q => (Fld.ne (f1_ordinal H) (f0_ordinal H) (by simp)) (Value.ref.inj q)) (by decide) (by decide) ?_
  refine g_aloadN X1 K (q := 19) d4_18 rfl rfl rfl ?_
  refine g_gets X1 K (q := 22) (w25 H) e1 ((s1 H).ext Ol0.2) d4_19 rfl ?_
  intro T2 X2 e2
  refine g_ac X2 K (q := 25) (same := true) d4_22 rfl rfl (decide_eq_true rfl) (by decide) (by decide) ?_
  refine g_iloadN X2 K (q := 26) d4_25 rfl rfl ?_
  refine g_iloadN X2 K (q := 27) d4_26 rfl rfl ?_
  refine g_icN X2 K (q := 30) d4_27 (feq hc_1).1 rfl ?_
  refine g_iconst X2 K (q := 31) (v := (1 : Int32)) d4_30 (by decide) rfl ?_
  refine g_goto X2 K (q := 35) d4_31 (by decide) (by decide) ?_
  refine g_nret X2 K (by simp) (z' := (1 : Int32)) (by decide) d4_35 (by decide) (by decide) ?_
  exact ⟨rfl, N0, e2⟩
set_option maxRecDepth 65536 in
set_option maxHeartbeats 40000000 in
theorem rm3_11 (l : Launch) {Z : State} {a0 : Array Value} (H : Hyp Z a0) (h0 : Heap) (Ol : Old Z Z.heap.size h0) :
    Mt l Z (⟨"java/lang/Enum", "ordinal", "()I"⟩ : MethodName) jdk_37_method_2_code 1 (some .int) [] ({ frames := 0, cells := 0, slots := 0, locals := 0 } : Room) #[(.ref (ad3 Z a0))] h0 (fun v h L => (v = some (.int (2 : Int32)) ∧ Fr Z.heap.size L ∧ h = h0)) := by
  refine g_body (plainFor_of_name pn_java_lang_Enum) ?_
  intro p e s m below meth c T0 K X0 e0
  refine g_entry (ef_1 m (ad3 Z a0)) ?_
  have N0 : Fr Z.heap.size [] := Fr.nil _
  have Ol0 := Ol
  have Kp0 : Keep h0 h0 [] := Keep.refl h0 _
  refine g_aloadN X0 K (q := 1) d3_0 rfl rfl rfl ?_
  refine g_getf X0 K (q := 4) (w20 H) Via.refl e0 ((f3_ordinal H).ext Ol0.2) d3_1 rfl ?_
  intro T1 X1 e1
  refine g_iret X1 K d3_4 (by decide) (by decide) ?_
  exact ⟨rfl, N0, e1⟩
set_option maxRecDepth 65536 in
set_option maxHeartbeats 40000000 in
theorem rm2_12 (l : Launch) {Z : State} {a0 : Array Value} (H : Hyp Z a0) (h0 : Heap) (Ol : Old Z Z.heap.size h0) :
    Mt l Z (⟨"com/example/annotable/annotable/PathQuery$Comparison", "swapped", "()Lcom/example/annotable/annotable/PathQuery$Comparison;"⟩ : MethodName) prog_16_method_5_code 1 (some (.object "com/example/annotable/annotable/PathQuery$Comparison")) [] ({ frames := 1, cells := 0, slots := 0, locals := 12 } : Room) #[(.ref (ad3 Z a0))] h0 (fun v h L => (v = some (.ref (ad2 Z a0)) ∧ Fr Z.heap.size L ∧ h = h0)) := by
  refine g_body (plainFor_of_name pn_com_example_annotable_annotable_PathQuery_Comparison) ?_
  intro p e s m below meth c T0 K X0 e0
  refine g_entry (ef_1 m (ad3 Z a0)) ?_
  have N0 : Fr Z.heap.size [] := Fr.nil _
  have Ol0 := Ol
  have Kp0 : Keep h0 h0 [] := Keep.refl h0 _
  refine g_aloadN X0 K (q := 1) d2_0 rfl rfl rfl ?_
  refine g_virtualUp X0 K (q := 4) (W := 0) (a := (ad3 Z a0)) (w13 H) (w14 H) (w15 H) (by decide) (w17 H) (w16 H) (w18 H) (w19 H) (rm3_11 l H h0 Ol0) e0 ((x3 H).ext Ol0.2) rfl (argsL := []) (rest := []) (lenOf pd_1 rfl) rfl rfl (Nat.le_of_eq rfl) d2_1 (by decide) (by decide) (by decide) (by decide) rfl ?_
  rintro T1 v1 L1 X1 ⟨rfl, N1q, e1⟩
  have N1 := Fr.app N0 N1q
  show Go p e below _ T1 (mkF m 4 #[.val (.ref (ad3 Z a0))] [(.int (2 : Int32))])
  refine g_tswIn X1 K (q := 36) (i := (2 : Int32)) (o := 32) d2_4 (by decide) (by decide) (by decide) (by decide) ?_
  refine g_gets X1 K (q := 39) (w34 H) e1 ((s2 H).ext Ol0.2) d2_36 rfl ?_
  intro T2 X2 e2
  refine g_goto X2 K (q := 61) d2_39 (by decide) (by decide) ?_
  refine g_aret X2 K rfl rfl rfl d2_61 (by decide) (by decide) ?_
  exact ⟨rfl, N1, e2⟩
set_option maxRecDepth 65536 in
set_option maxHeartbeats 40000000 in
theorem rm4_13 (l : Launch) {Z : State} {a0 : Array Value} (H : Hyp Z a0) (p1 : Int32) (p2 : Int32) (h0 : Heap) (Ol : Old Z Z.heap.size h0) :
    Mt l Z (⟨"com/example/annotable/annotable/ComparisonSwappedPinLaw", "holds", "(Lcom/example/annotable/annotable/PathQuery$Comparison;II)Z"⟩ : MethodName) method_3_code 3 (some .boolean) [] ({ frames := 0, cells := 0, slots := 0, locals := 0 } : Room) #[(.ref (ad3 Z a0)), (.int p1), (.int p2)] h0 (fun v h L => (p1 < p2 ∧ v = some (.int (1 : Int32)) ∧ Fr Z.heap.size L ∧ h = h0) ∨ (¬ (p1 < p2) ∧ v = some (.int (0 : Int32)) ∧ Fr Z.heap.size L ∧ h = h0)) := by
  refine g_body (plainFor_of_name pn_com_example_annotable_annotable_ComparisonSwappedPinLaw) ?_
  intro p e s m below meth c T0 K X0 e0
  refine g_entry (ef_2 m (ad3 Z a0) p1 p2) ?_
  have N0 : Fr Z.heap.size [] := Fr.nil _
  have Ol0 := Ol
  have Kp0 : Keep h0 h0 [] := Keep.refl h0 _
  refine g_aloadN X0 K (q := 1) d4_0 rfl rfl rfl ?_
  refine g_gets X0 K (q := 4) (w5 H) e0 ((s0 H).ext Ol0.2) d4_1 rfl ?_
  intro T1 X1 e1
  refine g_ac X1 K (q := 18) (same := false) d4_4 rfl rfl (decide_eq_false fun q => (Fld.ne (f3_ordinal H) (f0_ordinal H) (by simp)) (Value.ref.inj q)) (by decide) (by decide) ?_
  refine g_aloadN X1 K (q := 19) d4_18 rfl rfl rfl ?_
  refine g_gets X1 K (q := 22) (w25 H) e1 ((s1 H).ext Ol0.2) d4_19 rfl ?_
  intro T2 X2 e2
  refine g_ac X2 K (q := 36) (same := false) d4_22 rfl rfl (decide_eq_false fun q => (Fld.ne (f3_ordinal H) (f1_ordinal H) (by simp)) (Value.ref.inj q)) (by decide) (by decide) ?_
  refine g_aloadN X2 K (q := 37) d4_36 rfl rfl rfl ?_
  refine g_gets X2 K (q := 40) (w31 H) e2 ((s3 H).ext Ol0.2) d4_37 rfl ?_
  intro T3 X3 e3
  refine g_ac X3 K (q := 43) (same := true) d4_40 rfl rfl (decide_eq_true rfl) (by decide) (by decide) ?_
  refine g_iloadN X3 K (q := 44) d4_43 rfl rfl ?_
  refine g_iloadN X3 K (q := 45) d4_44 rfl rfl ?_
  by_cases hc1 : p1 < p2
  · refine g_icN X3 K (q := 48) d4_45 (tlt hc1).2.1 rfl ?_
    refine g_iconst X3 K (q := 49) (v := (1 : Int32)) d4_48 (by decide) rfl ?_
    refine g_goto X3 K (q := 53) d4_49 (by decide) (by decide) ?_
    refine g_nret X3 K (by simp) (z' := (1 : Int32)) (by decide) d4_53 (by decide) (by decide) ?_
    exact Or.inl (⟨hc1, rfl, N0, e3⟩)
  · refine g_icY X3 K (q := 52) d4_45 (flt hc1).2.1 (by decide) (by decide) ?_
    refine g_iconst X3 K (q := 53) (v := (0 : Int32)) d4_52 (by decide) rfl ?_
    refine g_nret X3 K (by simp) (z' := (0 : Int32)) (by decide) d4_53 (by decide) (by decide) ?_
    exact Or.inr (⟨hc1, rfl, N0, e3⟩)
set_option maxRecDepth 65536 in
set_option maxHeartbeats 40000000 in
theorem rm4_14 (l : Launch) {Z : State} {a0 : Array Value} (H : Hyp Z a0) (p1 : Int32) (p2 : Int32) (h0 : Heap) (Ol : Old Z Z.heap.size h0) (hc_1 : p2 < p1) :
    Mt l Z (⟨"com/example/annotable/annotable/ComparisonSwappedPinLaw", "holds", "(Lcom/example/annotable/annotable/PathQuery$Comparison;II)Z"⟩ : MethodName) method_3_code 3 (some .boolean) [] ({ frames := 0, cells := 0, slots := 0, locals := 0 } : Room) #[(.ref (ad2 Z a0)), (.int p1), (.int p2)] h0 (fun v h L => (v = some (.int (1 : Int32)) ∧ Fr Z.heap.size L ∧ h = h0)) := by
  refine g_body (plainFor_of_name pn_com_example_annotable_annotable_ComparisonSwappedPinLaw) ?_
  intro p e s m below meth c T0 K X0 e0
  refine g_entry (ef_2 m (ad2 Z a0) p1 p2) ?_
  have N0 : Fr Z.heap.size [] := Fr.nil _
  have Ol0 := Ol
  have Kp0 : Keep h0 h0 [] := Keep.refl h0 _
  refine g_aloadN X0 K (q := 1) d4_0 rfl rfl rfl ?_
  refine g_gets X0 K (q := 4) (w5 H) e0 ((s0 H).ext Ol0.2) d4_1 rfl ?_
  intro T1 X1 e1
  refine g_ac X1 K (q := 18) (same := false) d4_4 rfl rfl (decide_eq_false fun q => (Fld.ne (f2_ordinal H) (f0_ordinal H) (by simp)) (Value.ref.inj q)) (by decide) (by decide) ?_
  refine g_aloadN X1 K (q := 19) d4_18 rfl rfl rfl ?_
  refine g_gets X1 K (q := 22) (w25 H) e1 ((s1 H).ext Ol0.2) d4_19 rfl ?_
  intro T2 X2 e2
  refine g_ac X2 K (q := 36) (same := false) d4_22 rfl rfl (decide_eq_false fun q => (Fld.ne (f2_ordinal H) (f1_ordinal H) (by simp)) (Value.ref.inj q)) (by decide) (by decide) ?_
  refine g_aloadN X2 K (q := 37) d4_36 rfl rfl rfl ?_
  refine g_gets X2 K (q := 40) (w31 H) e2 ((s3 H).ext Ol0.2) d4_37 rfl ?_
  intro T3 X3 e3
  refine g_ac X3 K (q := 54) (same := false) d4_40 rfl rfl (decide_eq_false fun q => (Fld.ne (f2_ordinal H) (f3_ordinal H) (by simp)) (Value.ref.inj q)) (by decide) (by decide) ?_
  refine g_aloadN X3 K (q := 55) d4_54 rfl rfl rfl ?_
  refine g_gets X3 K (q := 58) (w32 H) e3 ((s4 H).ext Ol0.2) d4_55 rfl ?_
  intro T4 X4 e4
  refine g_ac X4 K (q := 72) (same := false) d4_58 rfl rfl (decide_eq_false fun q => (Fld.ne (f2_ordinal H) (f4_ordinal H) (by simp)) (Value.ref.inj q)) (by decide) (by decide) ?_
  refine g_aloadN X4 K (q := 73) d4_72 rfl rfl rfl ?_
  refine g_gets X4 K (q := 76) (w27 H) e4 ((s2 H).ext Ol0.2) d4_73 rfl ?_
  intro T5 X5 e5
  refine g_ac X5 K (q := 79) (same := true) d4_76 rfl rfl (decide_eq_true rfl) (by decide) (by decide) ?_
  refine g_iloadN X5 K (q := 80) d4_79 rfl rfl ?_
  refine g_iloadN X5 K (q := 81) d4_80 rfl rfl ?_
  refine g_icN X5 K (q := 84) d4_81 (tlt hc_1).2.2.2 rfl ?_
  refine g_iconst X5 K (q := 85) (v := (1 : Int32)) d4_84 (by decide) rfl ?_
  refine g_goto X5 K (q := 89) d4_85 (by decide) (by decide) ?_
  refine g_nret X5 K (by simp) (z' := (1 : Int32)) (by decide) d4_89 (by decide) (by decide) ?_
  exact ⟨rfl, N0, e5⟩
set_option maxRecDepth 65536 in
set_option maxHeartbeats 40000000 in
theorem rm3_15 (l : Launch) {Z : State} {a0 : Array Value} (H : Hyp Z a0) (h0 : Heap) (Ol : Old Z Z.heap.size h0) :
    Mt l Z (⟨"java/lang/Enum", "ordinal", "()I"⟩ : MethodName) jdk_37_method_2_code 1 (some .int) [] ({ frames := 0, cells := 0, slots := 0, locals := 0 } : Room) #[(.ref (ad2 Z a0))] h0 (fun v h L => (v = some (.int (4 : Int32)) ∧ Fr Z.heap.size L ∧ h = h0)) := by
  refine g_body (plainFor_of_name pn_java_lang_Enum) ?_
  intro p e s m below meth c T0 K X0 e0
  refine g_entry (ef_1 m (ad2 Z a0)) ?_
  have N0 : Fr Z.heap.size [] := Fr.nil _
  have Ol0 := Ol
  have Kp0 : Keep h0 h0 [] := Keep.refl h0 _
  refine g_aloadN X0 K (q := 1) d3_0 rfl rfl rfl ?_
  refine g_getf X0 K (q := 4) (w20 H) Via.refl e0 ((f2_ordinal H).ext Ol0.2) d3_1 rfl ?_
  intro T1 X1 e1
  refine g_iret X1 K d3_4 (by decide) (by decide) ?_
  exact ⟨rfl, N0, e1⟩
set_option maxRecDepth 65536 in
set_option maxHeartbeats 40000000 in
theorem rm2_16 (l : Launch) {Z : State} {a0 : Array Value} (H : Hyp Z a0) (h0 : Heap) (Ol : Old Z Z.heap.size h0) :
    Mt l Z (⟨"com/example/annotable/annotable/PathQuery$Comparison", "swapped", "()Lcom/example/annotable/annotable/PathQuery$Comparison;"⟩ : MethodName) prog_16_method_5_code 1 (some (.object "com/example/annotable/annotable/PathQuery$Comparison")) [] ({ frames := 1, cells := 0, slots := 0, locals := 12 } : Room) #[(.ref (ad2 Z a0))] h0 (fun v h L => (v = some (.ref (ad3 Z a0)) ∧ Fr Z.heap.size L ∧ h = h0)) := by
  refine g_body (plainFor_of_name pn_com_example_annotable_annotable_PathQuery_Comparison) ?_
  intro p e s m below meth c T0 K X0 e0
  refine g_entry (ef_1 m (ad2 Z a0)) ?_
  have N0 : Fr Z.heap.size [] := Fr.nil _
  have Ol0 := Ol
  have Kp0 : Keep h0 h0 [] := Keep.refl h0 _
  refine g_aloadN X0 K (q := 1) d2_0 rfl rfl rfl ?_
  refine g_virtualUp X0 K (q := 4) (W := 0) (a := (ad2 Z a0)) (w13 H) (w14 H) (w15 H) (by decide) (w17 H) (w16 H) (w18 H) (w19 H) (rm3_15 l H h0 Ol0) e0 ((x2 H).ext Ol0.2) rfl (argsL := []) (rest := []) (lenOf pd_1 rfl) rfl rfl (Nat.le_of_eq rfl) d2_1 (by decide) (by decide) (by decide) (by decide) rfl ?_
  rintro T1 v1 L1 X1 ⟨rfl, N1q, e1⟩
  have N1 := Fr.app N0 N1q
  show Go p e below _ T1 (mkF m 4 #[.val (.ref (ad2 Z a0))] [(.int (4 : Int32))])
  refine g_tswIn X1 K (q := 48) (i := (4 : Int32)) (o := 44) d2_4 (by decide) (by decide) (by decide) (by decide) ?_
  refine g_gets X1 K (q := 51) (w29 H) e1 ((s3 H).ext Ol0.2) d2_48 rfl ?_
  intro T2 X2 e2
  refine g_goto X2 K (q := 61) d2_51 (by decide) (by decide) ?_
  refine g_aret X2 K rfl rfl rfl d2_61 (by decide) (by decide) ?_
  exact ⟨rfl, N1, e2⟩
set_option maxRecDepth 65536 in
set_option maxHeartbeats 40000000 in
theorem rm4_17 (l : Launch) {Z : State} {a0 : Array Value} (H : Hyp Z a0) (p1 : Int32) (p2 : Int32) (h0 : Heap) (Ol : Old Z Z.heap.size h0) (hc_1 : ¬ (p2 < p1)) :
    Mt l Z (⟨"com/example/annotable/annotable/ComparisonSwappedPinLaw", "holds", "(Lcom/example/annotable/annotable/PathQuery$Comparison;II)Z"⟩ : MethodName) method_3_code 3 (some .boolean) [] ({ frames := 0, cells := 0, slots := 0, locals := 0 } : Room) #[(.ref (ad2 Z a0)), (.int p1), (.int p2)] h0 (fun v h L => (v = some (.int (0 : Int32)) ∧ Fr Z.heap.size L ∧ h = h0)) := by
  refine g_body (plainFor_of_name pn_com_example_annotable_annotable_ComparisonSwappedPinLaw) ?_
  intro p e s m below meth c T0 K X0 e0
  refine g_entry (ef_2 m (ad2 Z a0) p1 p2) ?_
  have N0 : Fr Z.heap.size [] := Fr.nil _
  have Ol0 := Ol
  have Kp0 : Keep h0 h0 [] := Keep.refl h0 _
  refine g_aloadN X0 K (q := 1) d4_0 rfl rfl rfl ?_
  refine g_gets X0 K (q := 4) (w5 H) e0 ((s0 H).ext Ol0.2) d4_1 rfl ?_
  intro T1 X1 e1
  refine g_ac X1 K (q := 18) (same := false) d4_4 rfl rfl (decide_eq_false fun q => (Fld.ne (f2_ordinal H) (f0_ordinal H) (by simp)) (Value.ref.inj q)) (by decide) (by decide) ?_
  refine g_aloadN X1 K (q := 19) d4_18 rfl rfl rfl ?_
  refine g_gets X1 K (q := 22) (w25 H) e1 ((s1 H).ext Ol0.2) d4_19 rfl ?_
  intro T2 X2 e2
  refine g_ac X2 K (q := 36) (same := false) d4_22 rfl rfl (decide_eq_false fun q => (Fld.ne (f2_ordinal H) (f1_ordinal H) (by simp)) (Value.ref.inj q)) (by decide) (by decide) ?_
  refine g_aloadN X2 K (q := 37) d4_36 rfl rfl rfl ?_
  refine g_gets X2 K (q := 40) (w31 H) e2 ((s3 H).ext Ol0.2) d4_37 rfl ?_
  intro T3 X3 e3
  refine g_ac X3 K (q := 54) (same := false) d4_40 rfl rfl (decide_eq_false fun q => (Fld.ne (f2_ordinal H) (f3_ordinal H) (by simp)) (Value.ref.inj q)) (by decide) (by decide) ?_
  refine g_aloadN X3 K (q := 55) d4_54 rfl rfl rfl ?_
  refine g_gets X3 K (q := 58) (w32 H) e3 ((s4 H).ext Ol0.2) d4_55 rfl ?_
  intro T4 X4 e4
  refine g_ac X4 K (q := 72) (same := false) d4_58 rfl rfl (decide_eq_false fun q => (Fld.ne (f2_ordinal H) (f4_ordinal H) (by simp)) (Value.ref.inj q)) (by decide) (by decide) ?_
  refine g_aloadN X4 K (q := 73) d4_72 rfl rfl rfl ?_
  refine g_gets X4 K (q := 76) (w27 H) e4 ((s2 H).ext Ol0.2) d4_73 rfl ?_
  intro T5 X5 e5
  refine g_ac X5 K (q := 79) (same := true) d4_76 rfl rfl (decide_eq_true rfl) (by decide) (by decide) ?_
  refine g_iloadN X5 K (q := 80) d4_79 rfl rfl ?_
  refine g_iloadN X5 K (q := 81) d4_80 rfl rfl ?_
  refine g_icY X5 K (q := 88) d4_81 (flt hc_1).2.2.2 (by decide) (by decide) ?_
  refine g_iconst X5 K (q := 89) (v := (0 : Int32)) d4_88 (by decide) rfl ?_
  refine g_nret X5 K (by simp) (z' := (0 : Int32)) (by decide) d4_89 (by decide) (by decide) ?_
  exact ⟨rfl, N0, e5⟩
set_option maxRecDepth 65536 in
set_option maxHeartbeats 40000000 in
theorem rm3_18 (l : Launch) {Z : State} {a0 : Array Value} (H : Hyp Z a0) (h0 : Heap) (Ol : Old Z Z.heap.size h0) :
    Mt l Z (⟨"java/lang/Enum", "ordinal", "()I"⟩ : MethodName) jdk_37_method_2_code 1 (some .int) [] ({ frames := 0, cells := 0, slots := 0, locals := 0 } : Room) #[(.ref (ad4 Z a0))] h0 (fun v h L => (v = some (.int (3 : Int32)) ∧ Fr Z.heap.size L ∧ h = h0)) := by
  refine g_body (plainFor_of_name pn_java_lang_Enum) ?_
  intro p e s m below meth c T0 K X0 e0
  refine g_entry (ef_1 m (ad4 Z a0)) ?_
  have N0 : Fr Z.heap.size [] := Fr.nil _
  have Ol0 := Ol
  have Kp0 : Keep h0 h0 [] := Keep.refl h0 _
  refine g_aloadN X0 K (q := 1) d3_0 rfl rfl rfl ?_
  refine g_getf X0 K (q := 4) (w20 H) Via.refl e0 ((f4_ordinal H).ext Ol0.2) d3_1 rfl ?_
  intro T1 X1 e1
  refine g_iret X1 K d3_4 (by decide) (by decide) ?_
  exact ⟨rfl, N0, e1⟩
set_option maxRecDepth 65536 in
set_option maxHeartbeats 40000000 in
theorem rm2_19 (l : Launch) {Z : State} {a0 : Array Value} (H : Hyp Z a0) (h0 : Heap) (Ol : Old Z Z.heap.size h0) :
    Mt l Z (⟨"com/example/annotable/annotable/PathQuery$Comparison", "swapped", "()Lcom/example/annotable/annotable/PathQuery$Comparison;"⟩ : MethodName) prog_16_method_5_code 1 (some (.object "com/example/annotable/annotable/PathQuery$Comparison")) [] ({ frames := 1, cells := 0, slots := 0, locals := 12 } : Room) #[(.ref (ad4 Z a0))] h0 (fun v h L => (v = some (.ref (ad5 Z a0)) ∧ Fr Z.heap.size L ∧ h = h0)) := by
  refine g_body (plainFor_of_name pn_com_example_annotable_annotable_PathQuery_Comparison) ?_
  intro p e s m below meth c T0 K X0 e0
  refine g_entry (ef_1 m (ad4 Z a0)) ?_
  have N0 : Fr Z.heap.size [] := Fr.nil _
  have Ol0 := Ol
  have Kp0 : Keep h0 h0 [] := Keep.refl h0 _
  refine g_aloadN X0 K (q := 1) d2_0 rfl rfl rfl ?_
  refine g_virtualUp X0 K (q := 4) (W := 0) (a := (ad4 Z a0)) (w13 H) (w14 H) (w15 H) (by decide) (w17 H) (w16 H) (w18 H) (w19 H) (rm3_18 l H h0 Ol0) e0 ((x4 H).ext Ol0.2) rfl (argsL := []) (rest := []) (lenOf pd_1 rfl) rfl rfl (Nat.le_of_eq rfl) d2_1 (by decide) (by decide) (by decide) (by decide) rfl ?_
  rintro T1 v1 L1 X1 ⟨rfl, N1q, e1⟩
  have N1 := Fr.app N0 N1q
  show Go p e below _ T1 (mkF m 4 #[.val (.ref (ad4 Z a0))] [(.int (3 : Int32))])
  refine g_tswIn X1 K (q := 42) (i := (3 : Int32)) (o := 38) d2_4 (by decide) (by decide) (by decide) (by decide) ?_
  refine g_gets X1 K (q := 45) (w35 H) e1 ((s5 H).ext Ol0.2) d2_42 rfl ?_
  intro T2 X2 e2
  refine g_goto X2 K (q := 61) d2_45 (by decide) (by decide) ?_
  refine g_aret X2 K rfl rfl rfl d2_61 (by decide) (by decide) ?_
  exact ⟨rfl, N1, e2⟩
set_option maxRecDepth 65536 in
set_option maxHeartbeats 40000000 in
theorem rm4_20 (l : Launch) {Z : State} {a0 : Array Value} (H : Hyp Z a0) (p1 : Int32) (p2 : Int32) (h0 : Heap) (Ol : Old Z Z.heap.size h0) :
    Mt l Z (⟨"com/example/annotable/annotable/ComparisonSwappedPinLaw", "holds", "(Lcom/example/annotable/annotable/PathQuery$Comparison;II)Z"⟩ : MethodName) method_3_code 3 (some .boolean) [] ({ frames := 0, cells := 0, slots := 0, locals := 0 } : Room) #[(.ref (ad4 Z a0)), (.int p1), (.int p2)] h0 (fun v h L => (p2 < p1 ∧ v = some (.int (0 : Int32)) ∧ Fr Z.heap.size L ∧ h = h0) ∨ (¬ (p2 < p1) ∧ v = some (.int (1 : Int32)) ∧ Fr Z.heap.size L ∧ h = h0)) := by
  refine g_body (plainFor_of_name pn_com_example_annotable_annotable_ComparisonSwappedPinLaw) ?_
  intro p e s m below meth c T0 K X0 e0
  refine g_entry (ef_2 m (ad4 Z a0) p1 p2) ?_
  have N0 : Fr Z.heap.size [] := Fr.nil _
  have Ol0 := Ol
  have Kp0 : Keep h0 h0 [] := Keep.refl h0 _
  refine g_aloadN X0 K (q := 1) d4_0 rfl rfl rfl ?_
  refine g_gets X0 K (q := 4) (w5 H) e0 ((s0 H).ext Ol0.2) d4_1 rfl ?_
  intro T1 X1 e1
  refine g_ac X1 K (q := 18) (same := false) d4_4 rfl rfl (decide_eq_false fun q => (Fld.ne (f4_ordinal H) (f0_ordinal H) (by simp)) (Value.ref.inj q)) (by decide) (by decide) ?_
  refine g_aloadN X1 K (q := 19) d4_18 rfl rfl rfl ?_
  refine g_gets X1 K (q := 22) (w25 H) e1 ((s1 H).ext Ol0.2) d4_19 rfl ?_
  intro T2 X2 e2
  refine g_ac X2 K (q := 36) (same := false) d4_22 rfl rfl (decide_eq_false fun q => (Fld.ne (f4_ordinal H) (f1_ordinal H) (by simp)) (Value.ref.inj q)) (by decide) (by decide) ?_
  refine g_aloadN X2 K (q := 37) d4_36 rfl rfl rfl ?_
  refine g_gets X2 K (q := 40) (w31 H) e2 ((s3 H).ext Ol0.2) d4_37 rfl ?_
  intro T3 X3 e3
  refine g_ac X3 K (q := 54) (same := false) d4_40 rfl rfl (decide_eq_false fun q => (Fld.ne (f4_ordinal H) (f3_ordinal H) (by simp)) (Value.ref.inj q)) (by decide) (by decide) ?_
  refine g_aloadN X3 K (q := 55) d4_54 rfl rfl rfl ?_
  refine g_gets X3 K (q := 58) (w32 H) e3 ((s4 H).ext Ol0.2) d4_55 rfl ?_
  intro T4 X4 e4
  refine g_ac X4 K (q := 61) (same := true) d4_58 rfl rfl (decide_eq_true rfl) (by decide) (by decide) ?_
  refine g_iloadN X4 K (q := 62) d4_61 rfl rfl ?_
  refine g_iloadN X4 K (q := 63) d4_62 rfl rfl ?_
  by_cases hc1 : p2 < p1
  · refine g_icY X4 K (q := 70) d4_63 (tlt hc1).2.2.1 (by decide) (by decide) ?_
    refine g_iconst X4 K (q := 71) (v := (0 : Int32)) d4_70 (by decide) rfl ?_
    refine g_nret X4 K (by simp) (z' := (0 : Int32)) (by decide) d4_71 (by decide) (by decide) ?_
    exact Or.inl (⟨hc1, rfl, N0, e4⟩)
  · refine g_icN X4 K (q := 66) d4_63 (flt hc1).2.2.1 rfl ?_
    refine g_iconst X4 K (q := 67) (v := (1 : Int32)) d4_66 (by decide) rfl ?_
    refine g_goto X4 K (q := 71) d4_67 (by decide) (by decide) ?_
    refine g_nret X4 K (by simp) (z' := (1 : Int32)) (by decide) d4_71 (by decide) (by decide) ?_
    exact Or.inr (⟨hc1, rfl, N0, e4⟩)
set_option maxRecDepth 65536 in
set_option maxHeartbeats 40000000 in
theorem rm4_21 (l : Launch) {Z : State} {a0 : Array Value} (H : Hyp Z a0) (p1 : Int32) (p2 : Int32) (h0 : Heap) (Ol : Old Z Z.heap.size h0) (hc_1 : p1 < p2) :
    Mt l Z (⟨"com/example/annotable/annotable/ComparisonSwappedPinLaw", "holds", "(Lcom/example/annotable/annotable/PathQuery$Comparison;II)Z"⟩ : MethodName) method_3_code 3 (some .boolean) [] ({ frames := 0, cells := 0, slots := 0, locals := 0 } : Room) #[(.ref (ad5 Z a0)), (.int p1), (.int p2)] h0 (fun v h L => (v = some (.int (0 : Int32)) ∧ Fr Z.heap.size L ∧ h = h0)) := by
  refine g_body (plainFor_of_name pn_com_example_annotable_annotable_ComparisonSwappedPinLaw) ?_
  intro p e s m below meth c T0 K X0 e0
  refine g_entry (ef_2 m (ad5 Z a0) p1 p2) ?_
  have N0 : Fr Z.heap.size [] := Fr.nil _
  have Ol0 := Ol
  have Kp0 : Keep h0 h0 [] := Keep.refl h0 _
  refine g_aloadN X0 K (q := 1) d4_0 rfl rfl rfl ?_
  refine g_gets X0 K (q := 4) (w5 H) e0 ((s0 H).ext Ol0.2) d4_1 rfl ?_
  intro T1 X1 e1
  refine g_ac X1 K (q := 18) (same := false) d4_4 rfl rfl (decide_eq_false fun q => (Fld.ne (f5_ordinal H) (f0_ordinal H) (by simp)) (Value.ref.inj q)) (by decide) (by decide) ?_
  refine g_aloadN X1 K (q := 19) d4_18 rfl rfl rfl ?_
  refine g_gets X1 K (q := 22) (w25 H) e1 ((s1 H).ext Ol0.2) d4_19 rfl ?_
  intro T2 X2 e2
  refine g_ac X2 K (q := 36) (same := false) d4_22 rfl rfl (decide_eq_false fun q => (Fld.ne (f5_ordinal H) (f1_ordinal H) (by simp)) (Value.ref.inj q)) (by decide) (by decide) ?_
  refine g_aloadN X2 K (q := 37) d4_36 rfl rfl rfl ?_
  refine g_gets X2 K (q := 40) (w31 H) e2 ((s3 H).ext Ol0.2) d4_37 rfl ?_
  intro T3 X3 e3
  refine g_ac X3 K (q := 54) (same := false) d4_40 rfl rfl (decide_eq_false fun q => (Fld.ne (f5_ordinal H) (f3_ordinal H) (by simp)) (Value.ref.inj q)) (by decide) (by decide) ?_
  refine g_aloadN X3 K (q := 55) d4_54 rfl rfl rfl ?_
  refine g_gets X3 K (q := 58) (w32 H) e3 ((s4 H).ext Ol0.2) d4_55 rfl ?_
  intro T4 X4 e4
  refine g_ac X4 K (q := 72) (same := false) d4_58 rfl rfl (decide_eq_false fun q => (Fld.ne (f5_ordinal H) (f4_ordinal H) (by simp)) (Value.ref.inj q)) (by decide) (by decide) ?_
  refine g_aloadN X4 K (q := 73) d4_72 rfl rfl rfl ?_
  refine g_gets X4 K (q := 76) (w27 H) e4 ((s2 H).ext Ol0.2) d4_73 rfl ?_
  intro T5 X5 e5
  refine g_ac X5 K (q := 90) (same := false) d4_76 rfl rfl (decide_eq_false fun q => (Fld.ne (f5_ordinal H) (f2_ordinal H) (by simp)) (Value.ref.inj q)) (by decide) (by decide) ?_
  refine g_aloadN X5 K (q := 91) d4_90 rfl rfl rfl ?_
  refine g_gets X5 K (q := 94) (w37 H) e5 ((s5 H).ext Ol0.2) d4_91 rfl ?_
  intro T6 X6 e6
  refine g_ac X6 K (q := 97) (same := true) d4_94 rfl rfl (decide_eq_true rfl) (by decide) (by decide) ?_
  refine g_iloadN X6 K (q := 98) d4_97 rfl rfl ?_
  refine g_iloadN X6 K (q := 99) d4_98 rfl rfl ?_
  refine g_icY X6 K (q := 106) d4_99 (tlt hc_1).1 (by decide) (by decide) ?_
  refine g_iconst X6 K (q := 107) (v := (0 : Int32)) d4_106 (by decide) rfl ?_
  refine g_nret X6 K (by simp) (z' := (0 : Int32)) (by decide) d4_107 (by decide) (by decide) ?_
  exact ⟨rfl, N0, e6⟩
set_option maxRecDepth 65536 in
set_option maxHeartbeats 40000000 in
theorem rm3_22 (l : Launch) {Z : State} {a0 : Array Value} (H : Hyp Z a0) (h0 : Heap) (Ol : Old Z Z.heap.size h0) :
    Mt l Z (⟨"java/lang/Enum", "ordinal", "()I"⟩ : MethodName) jdk_37_method_2_code 1 (some .int) [] ({ frames := 0, cells := 0, slots := 0, locals := 0 } : Room) #[(.ref (ad5 Z a0))] h0 (fun v h L => (v = some (.int (5 : Int32)) ∧ Fr Z.heap.size L ∧ h = h0)) := by
  refine g_body (plainFor_of_name pn_java_lang_Enum) ?_
  intro p e s m below meth c T0 K X0 e0
  refine g_entry (ef_1 m (ad5 Z a0)) ?_
  have N0 : Fr Z.heap.size [] := Fr.nil _
  have Ol0 := Ol
  have Kp0 : Keep h0 h0 [] := Keep.refl h0 _
  refine g_aloadN X0 K (q := 1) d3_0 rfl rfl rfl ?_
  refine g_getf X0 K (q := 4) (w20 H) Via.refl e0 ((f5_ordinal H).ext Ol0.2) d3_1 rfl ?_
  intro T1 X1 e1
  refine g_iret X1 K d3_4 (by decide) (by decide) ?_
  exact ⟨rfl, N0, e1⟩
set_option maxRecDepth 65536 in
set_option maxHeartbeats 40000000 in
theorem rm2_23 (l : Launch) {Z : State} {a0 : Array Value} (H : Hyp Z a0) (h0 : Heap) (Ol : Old Z Z.heap.size h0) :
    Mt l Z (⟨"com/example/annotable/annotable/PathQuery$Comparison", "swapped", "()Lcom/example/annotable/annotable/PathQuery$Comparison;"⟩ : MethodName) prog_16_method_5_code 1 (some (.object "com/example/annotable/annotable/PathQuery$Comparison")) [] ({ frames := 1, cells := 0, slots := 0, locals := 12 } : Room) #[(.ref (ad5 Z a0))] h0 (fun v h L => (v = some (.ref (ad4 Z a0)) ∧ Fr Z.heap.size L ∧ h = h0)) := by
  refine g_body (plainFor_of_name pn_com_example_annotable_annotable_PathQuery_Comparison) ?_
  intro p e s m below meth c T0 K X0 e0
  refine g_entry (ef_1 m (ad5 Z a0)) ?_
  have N0 : Fr Z.heap.size [] := Fr.nil _
  have Ol0 := Ol
  have Kp0 : Keep h0 h0 [] := Keep.refl h0 _
  refine g_aloadN X0 K (q := 1) d2_0 rfl rfl rfl ?_
  refine g_virtualUp X0 K (q := 4) (W := 0) (a := (ad5 Z a0)) (w13 H) (w14 H) (w15 H) (by decide) (w17 H) (w16 H) (w18 H) (w19 H) (rm3_22 l H h0 Ol0) e0 ((x5 H).ext Ol0.2) rfl (argsL := []) (rest := []) (lenOf pd_1 rfl) rfl rfl (Nat.le_of_eq rfl) d2_1 (by decide) (by decide) (by decide) (by decide) rfl ?_
  rintro T1 v1 L1 X1 ⟨rfl, N1q, e1⟩
  have N1 := Fr.app N0 N1q
  show Go p e below _ T1 (mkF m 4 #[.val (.ref (ad5 Z a0))] [(.int (5 : Int32))])
  refine g_tswIn X1 K (q := 54) (i := (5 : Int32)) (o := 50) d2_4 (by decide) (by decide) (by decide) (by decide) ?_
  refine g_gets X1 K (q := 57) (w38 H) e1 ((s4 H).ext Ol0.2) d2_54 rfl ?_
  intro T2 X2 e2
  refine g_goto X2 K (q := 61) d2_57 (by decide) (by decide) ?_
  refine g_aret X2 K rfl rfl rfl d2_61 (by decide) (by decide) ?_
  exact ⟨rfl, N1, e2⟩
set_option maxRecDepth 65536 in
set_option maxHeartbeats 40000000 in
theorem rm4_24 (l : Launch) {Z : State} {a0 : Array Value} (H : Hyp Z a0) (p1 : Int32) (p2 : Int32) (h0 : Heap) (Ol : Old Z Z.heap.size h0) (hc_1 : ¬ (p1 < p2)) :
    Mt l Z (⟨"com/example/annotable/annotable/ComparisonSwappedPinLaw", "holds", "(Lcom/example/annotable/annotable/PathQuery$Comparison;II)Z"⟩ : MethodName) method_3_code 3 (some .boolean) [] ({ frames := 0, cells := 0, slots := 0, locals := 0 } : Room) #[(.ref (ad5 Z a0)), (.int p1), (.int p2)] h0 (fun v h L => (v = some (.int (1 : Int32)) ∧ Fr Z.heap.size L ∧ h = h0)) := by
  refine g_body (plainFor_of_name pn_com_example_annotable_annotable_ComparisonSwappedPinLaw) ?_
  intro p e s m below meth c T0 K X0 e0
  refine g_entry (ef_2 m (ad5 Z a0) p1 p2) ?_
  have N0 : Fr Z.heap.size [] := Fr.nil _
  have Ol0 := Ol
  have Kp0 : Keep h0 h0 [] := Keep.refl h0 _
  refine g_aloadN X0 K (q := 1) d4_0 rfl rfl rfl ?_
  refine g_gets X0 K (q := 4) (w5 H) e0 ((s0 H).ext Ol0.2) d4_1 rfl ?_
  intro T1 X1 e1
  refine g_ac X1 K (q := 18) (same := false) d4_4 rfl rfl (decide_eq_false fun q => (Fld.ne (f5_ordinal H) (f0_ordinal H) (by simp)) (Value.ref.inj q)) (by decide) (by decide) ?_
  refine g_aloadN X1 K (q := 19) d4_18 rfl rfl rfl ?_
  refine g_gets X1 K (q := 22) (w25 H) e1 ((s1 H).ext Ol0.2) d4_19 rfl ?_
  intro T2 X2 e2
  refine g_ac X2 K (q := 36) (same := false) d4_22 rfl rfl (decide_eq_false fun q => (Fld.ne (f5_ordinal H) (f1_ordinal H) (by simp)) (Value.ref.inj q)) (by decide) (by decide) ?_
  refine g_aloadN X2 K (q := 37) d4_36 rfl rfl rfl ?_
  refine g_gets X2 K (q := 40) (w31 H) e2 ((s3 H).ext Ol0.2) d4_37 rfl ?_
  intro T3 X3 e3
  refine g_ac X3 K (q := 54) (same := false) d4_40 rfl rfl (decide_eq_false fun q => (Fld.ne (f5_ordinal H) (f3_ordinal H) (by simp)) (Value.ref.inj q)) (by decide) (by decide) ?_
  refine g_aloadN X3 K (q := 55) d4_54 rfl rfl rfl ?_
  refine g_gets X3 K (q := 58) (w32 H) e3 ((s4 H).ext Ol0.2) d4_55 rfl ?_
  intro T4 X4 e4
  refine g_ac X4 K (q := 72) (same := false) d4_58 rfl rfl (decide_eq_false fun q => (Fld.ne (f5_ordinal H) (f4_ordinal H) (by simp)) (Value.ref.inj q)) (by decide) (by decide) ?_
  refine g_aloadN X4 K (q := 73) d4_72 rfl rfl rfl ?_
  refine g_gets X4 K (q := 76) (w27 H) e4 ((s2 H).ext Ol0.2) d4_73 rfl ?_
  intro T5 X5 e5
  refine g_ac X5 K (q := 90) (same := false) d4_76 rfl rfl (decide_eq_false fun q => (Fld.ne (f5_ordinal H) (f2_ordinal H) (by simp)) (Value.ref.inj q)) (by decide) (by decide) ?_
  refine g_aloadN X5 K (q := 91) d4_90 rfl rfl rfl ?_
  refine g_gets X5 K (q := 94) (w37 H) e5 ((s5 H).ext Ol0.2) d4_91 rfl ?_
  intro T6 X6 e6
  refine g_ac X6 K (q := 97) (same := true) d4_94 rfl rfl (decide_eq_true rfl) (by decide) (by decide) ?_
  refine g_iloadN X6 K (q := 98) d4_97 rfl rfl ?_
  refine g_iloadN X6 K (q := 99) d4_98 rfl rfl ?_
  refine g_icN X6 K (q := 102) d4_99 (flt hc_1).1 rfl ?_
  refine g_iconst X6 K (q := 103) (v := (1 : Int32)) d4_102 (by decide) rfl ?_
  refine g_goto X6 K (q := 107) d4_103 (by decide) (by decide) ?_
  refine g_nret X6 K (by simp) (z' := (1 : Int32)) (by decide) d4_107 (by decide) (by decide) ?_
  exact ⟨rfl, N0, e6⟩
set_option maxRecDepth 65536 in
set_option maxHeartbeats 40000000 in
theorem rm4_25 (l : Launch) {Z : State} {a0 : Array Value} (H : Hyp Z a0) (p1 : Int32) (p2 : Int32) (h0 : Heap) (Ol : Old Z Z.heap.size h0) :
    Mt l Z (⟨"com/example/annotable/annotable/ComparisonSwappedPinLaw", "holds", "(Lcom/example/annotable/annotable/PathQuery$Comparison;II)Z"⟩ : MethodName) method_3_code 3 (some .boolean) [] ({ frames := 0, cells := 0, slots := 0, locals := 0 } : Room) #[(.ref (ad2 Z a0)), (.int p1), (.int p2)] h0 (fun v h L => (p2 < p1 ∧ v = some (.int (1 : Int32)) ∧ Fr Z.heap.size L ∧ h = h0) ∨ (¬ (p2 < p1) ∧ v = some (.int (0 : Int32)) ∧ Fr Z.heap.size L ∧ h = h0)) := by
  refine g_body (plainFor_of_name pn_com_example_annotable_annotable_ComparisonSwappedPinLaw) ?_
  intro p e s m below meth c T0 K X0 e0
  refine g_entry (ef_2 m (ad2 Z a0) p1 p2) ?_
  have N0 : Fr Z.heap.size [] := Fr.nil _
  have Ol0 := Ol
  have Kp0 : Keep h0 h0 [] := Keep.refl h0 _
  refine g_aloadN X0 K (q := 1) d4_0 rfl rfl rfl ?_
  refine g_gets X0 K (q := 4) (w5 H) e0 ((s0 H).ext Ol0.2) d4_1 rfl ?_
  intro T1 X1 e1
  refine g_ac X1 K (q := 18) (same := false) d4_4 rfl rfl (decide_eq_false fun q => (Fld.ne (f2_ordinal H) (f0_ordinal H) (by simp)) (Value.ref.inj q)) (by decide) (by decide) ?_
  refine g_aloadN X1 K (q := 19) d4_18 rfl rfl rfl ?_
  refine g_gets X1 K (q := 22) (w25 H) e1 ((s1 H).ext Ol0.2) d4_19 rfl ?_
  intro T2 X2 e2
  refine g_ac X2 K (q := 36) (same := false) d4_22 rfl rfl (decide_eq_false fun q => (Fld.ne (f2_ordinal H) (f1_ordinal H) (by simp)) (Value.ref.inj q)) (by decide) (by decide) ?_
  refine g_aloadN X2 K (q := 37) d4_36 rfl rfl rfl ?_
  refine g_gets X2 K (q := 40) (w31 H) e2 ((s3 H).ext Ol0.2) d4_37 rfl ?_
  intro T3 X3 e3
  refine g_ac X3 K (q := 54) (same := false) d4_40 rfl rfl (decide_eq_false fun q => (Fld.ne (f2_ordinal H) (f3_ordinal H) (by simp)) (Value.ref.inj q)) (by decide) (by decide) ?_
  refine g_aloadN X3 K (q := 55) d4_54 rfl rfl rfl ?_
  refine g_gets X3 K (q := 58) (w32 H) e3 ((s4 H).ext Ol0.2) d4_55 rfl ?_
  intro T4 X4 e4
  refine g_ac X4 K (q := 72) (same := false) d4_58 rfl rfl (decide_eq_false fun q => (Fld.ne (f2_ordinal H) (f4_ordinal H) (by simp)) (Value.ref.inj q)) (by decide) (by decide) ?_
  refine g_aloadN X4 K (q := 73) d4_72 rfl rfl rfl ?_
  refine g_gets X4 K (q := 76) (w27 H) e4 ((s2 H).ext Ol0.2) d4_73 rfl ?_
  intro T5 X5 e5
  refine g_ac X5 K (q := 79) (same := true) d4_76 rfl rfl (decide_eq_true rfl) (by decide) (by decide) ?_
  refine g_iloadN X5 K (q := 80) d4_79 rfl rfl ?_
  refine g_iloadN X5 K (q := 81) d4_80 rfl rfl ?_
  by_cases hc1 : p2 < p1
  · refine g_icN X5 K (q := 84) d4_81 (tlt hc1).2.2.2 rfl ?_
    refine g_iconst X5 K (q := 85) (v := (1 : Int32)) d4_84 (by decide) rfl ?_
    refine g_goto X5 K (q := 89) d4_85 (by decide) (by decide) ?_
    refine g_nret X5 K (by simp) (z' := (1 : Int32)) (by decide) d4_89 (by decide) (by decide) ?_
    exact Or.inl (⟨hc1, rfl, N0, e5⟩)
  · refine g_icY X5 K (q := 88) d4_81 (flt hc1).2.2.2 (by decide) (by decide) ?_
    refine g_iconst X5 K (q := 89) (v := (0 : Int32)) d4_88 (by decide) rfl ?_
    refine g_nret X5 K (by simp) (z' := (0 : Int32)) (by decide) d4_89 (by decide) (by decide) ?_
    exact Or.inr (⟨hc1, rfl, N0, e5⟩)
set_option maxRecDepth 65536 in
set_option maxHeartbeats 40000000 in
theorem rm4_26 (l : Launch) {Z : State} {a0 : Array Value} (H : Hyp Z a0) (p1 : Int32) (p2 : Int32) (h0 : Heap) (Ol : Old Z Z.heap.size h0) (hc_1 : p1 < p2) :
    Mt l Z (⟨"com/example/annotable/annotable/ComparisonSwappedPinLaw", "holds", "(Lcom/example/annotable/annotable/PathQuery$Comparison;II)Z"⟩ : MethodName) method_3_code 3 (some .boolean) [] ({ frames := 0, cells := 0, slots := 0, locals := 0 } : Room) #[(.ref (ad3 Z a0)), (.int p1), (.int p2)] h0 (fun v h L => (v = some (.int (1 : Int32)) ∧ Fr Z.heap.size L ∧ h = h0)) := by
  refine g_body (plainFor_of_name pn_com_example_annotable_annotable_ComparisonSwappedPinLaw) ?_
  intro p e s m below meth c T0 K X0 e0
  refine g_entry (ef_2 m (ad3 Z a0) p1 p2) ?_
  have N0 : Fr Z.heap.size [] := Fr.nil _
  have Ol0 := Ol
  have Kp0 : Keep h0 h0 [] := Keep.refl h0 _
  refine g_aloadN X0 K (q := 1) d4_0 rfl rfl rfl ?_
  refine g_gets X0 K (q := 4) (w5 H) e0 ((s0 H).ext Ol0.2) d4_1 rfl ?_
  intro T1 X1 e1
  refine g_ac X1 K (q := 18) (same := false) d4_4 rfl rfl (decide_eq_false fun q => (Fld.ne (f3_ordinal H) (f0_ordinal H) (by simp)) (Value.ref.inj q)) (by decide) (by decide) ?_
  refine g_aloadN X1 K (q := 19) d4_18 rfl rfl rfl ?_
  refine g_gets X1 K (q := 22) (w25 H) e1 ((s1 H).ext Ol0.2) d4_19 rfl ?_
  intro T2 X2 e2
  refine g_ac X2 K (q := 36) (same := false) d4_22 rfl rfl (decide_eq_false fun q => (Fld.ne (f3_ordinal H) (f1_ordinal H) (by simp)) (Value.ref.inj q)) (by decide) (by decide) ?_
  refine g_aloadN X2 K (q := 37) d4_36 rfl rfl rfl ?_
  refine g_gets X2 K (q := 40) (w31 H) e2 ((s3 H).ext Ol0.2) d4_37 rfl ?_
  intro T3 X3 e3
  refine g_ac X3 K (q := 43) (same := true) d4_40 rfl rfl (decide_eq_true rfl) (by decide) (by decide) ?_
  refine g_iloadN X3 K (q := 44) d4_43 rfl rfl ?_
  refine g_iloadN X3 K (q := 45) d4_44 rfl rfl ?_
  refine g_icN X3 K (q := 48) d4_45 (tlt hc_1).2.1 rfl ?_
  refine g_iconst X3 K (q := 49) (v := (1 : Int32)) d4_48 (by decide) rfl ?_
  refine g_goto X3 K (q := 53) d4_49 (by decide) (by decide) ?_
  refine g_nret X3 K (by simp) (z' := (1 : Int32)) (by decide) d4_53 (by decide) (by decide) ?_
  exact ⟨rfl, N0, e3⟩
set_option maxRecDepth 65536 in
set_option maxHeartbeats 40000000 in
theorem rm4_27 (l : Launch) {Z : State} {a0 : Array Value} (H : Hyp Z a0) (p1 : Int32) (p2 : Int32) (h0 : Heap) (Ol : Old Z Z.heap.size h0) (hc_1 : ¬ (p1 < p2)) :
    Mt l Z (⟨"com/example/annotable/annotable/ComparisonSwappedPinLaw", "holds", "(Lcom/example/annotable/annotable/PathQuery$Comparison;II)Z"⟩ : MethodName) method_3_code 3 (some .boolean) [] ({ frames := 0, cells := 0, slots := 0, locals := 0 } : Room) #[(.ref (ad3 Z a0)), (.int p1), (.int p2)] h0 (fun v h L => (v = some (.int (0 : Int32)) ∧ Fr Z.heap.size L ∧ h = h0)) := by
  refine g_body (plainFor_of_name pn_com_example_annotable_annotable_ComparisonSwappedPinLaw) ?_
  intro p e s m below meth c T0 K X0 e0
  refine g_entry (ef_2 m (ad3 Z a0) p1 p2) ?_
  have N0 : Fr Z.heap.size [] := Fr.nil _
  have Ol0 := Ol
  have Kp0 : Keep h0 h0 [] := Keep.refl h0 _
  refine g_aloadN X0 K (q := 1) d4_0 rfl rfl rfl ?_
  refine g_gets X0 K (q := 4) (w5 H) e0 ((s0 H).ext Ol0.2) d4_1 rfl ?_
  intro T1 X1 e1
  refine g_ac X1 K (q := 18) (same := false) d4_4 rfl rfl (decide_eq_false fun q => (Fld.ne (f3_ordinal H) (f0_ordinal H) (by simp)) (Value.ref.inj q)) (by decide) (by decide) ?_
  refine g_aloadN X1 K (q := 19) d4_18 rfl rfl rfl ?_
  refine g_gets X1 K (q := 22) (w25 H) e1 ((s1 H).ext Ol0.2) d4_19 rfl ?_
  intro T2 X2 e2
  refine g_ac X2 K (q := 36) (same := false) d4_22 rfl rfl (decide_eq_false fun q => (Fld.ne (f3_ordinal H) (f1_ordinal H) (by simp)) (Value.ref.inj q)) (by decide) (by decide) ?_
  refine g_aloadN X2 K (q := 37) d4_36 rfl rfl rfl ?_
  refine g_gets X2 K (q := 40) (w31 H) e2 ((s3 H).ext Ol0.2) d4_37 rfl ?_
  intro T3 X3 e3
  refine g_ac X3 K (q := 43) (same := true) d4_40 rfl rfl (decide_eq_true rfl) (by decide) (by decide) ?_
  refine g_iloadN X3 K (q := 44) d4_43 rfl rfl ?_
  refine g_iloadN X3 K (q := 45) d4_44 rfl rfl ?_
  refine g_icY X3 K (q := 52) d4_45 (flt hc_1).2.1 (by decide) (by decide) ?_
  refine g_iconst X3 K (q := 53) (v := (0 : Int32)) d4_52 (by decide) rfl ?_
  refine g_nret X3 K (by simp) (z' := (0 : Int32)) (by decide) d4_53 (by decide) (by decide) ?_
  exact ⟨rfl, N0, e3⟩
set_option maxRecDepth 65536 in
set_option maxHeartbeats 40000000 in
theorem rm4_28 (l : Launch) {Z : State} {a0 : Array Value} (H : Hyp Z a0) (p1 : Int32) (p2 : Int32) (h0 : Heap) (Ol : Old Z Z.heap.size h0) :
    Mt l Z (⟨"com/example/annotable/annotable/ComparisonSwappedPinLaw", "holds", "(Lcom/example/annotable/annotable/PathQuery$Comparison;II)Z"⟩ : MethodName) method_3_code 3 (some .boolean) [] ({ frames := 0, cells := 0, slots := 0, locals := 0 } : Room) #[(.ref (ad5 Z a0)), (.int p1), (.int p2)] h0 (fun v h L => (p1 < p2 ∧ v = some (.int (0 : Int32)) ∧ Fr Z.heap.size L ∧ h = h0) ∨ (¬ (p1 < p2) ∧ v = some (.int (1 : Int32)) ∧ Fr Z.heap.size L ∧ h = h0)) := by
  refine g_body (plainFor_of_name pn_com_example_annotable_annotable_ComparisonSwappedPinLaw) ?_
  intro p e s m below meth c T0 K X0 e0
  refine g_entry (ef_2 m (ad5 Z a0) p1 p2) ?_
  have N0 : Fr Z.heap.size [] := Fr.nil _
  have Ol0 := Ol
  have Kp0 : Keep h0 h0 [] := Keep.refl h0 _
  refine g_aloadN X0 K (q := 1) d4_0 rfl rfl rfl ?_
  refine g_gets X0 K (q := 4) (w5 H) e0 ((s0 H).ext Ol0.2) d4_1 rfl ?_
  intro T1 X1 e1
  refine g_ac X1 K (q := 18) (same := false) d4_4 rfl rfl (decide_eq_false fun q => (Fld.ne (f5_ordinal H) (f0_ordinal H) (by simp)) (Value.ref.inj q)) (by decide) (by decide) ?_
  refine g_aloadN X1 K (q := 19) d4_18 rfl rfl rfl ?_
  refine g_gets X1 K (q := 22) (w25 H) e1 ((s1 H).ext Ol0.2) d4_19 rfl ?_
  intro T2 X2 e2
  refine g_ac X2 K (q := 36) (same := false) d4_22 rfl rfl (decide_eq_false fun q => (Fld.ne (f5_ordinal H) (f1_ordinal H) (by simp)) (Value.ref.inj q)) (by decide) (by decide) ?_
  refine g_aloadN X2 K (q := 37) d4_36 rfl rfl rfl ?_
  refine g_gets X2 K (q := 40) (w31 H) e2 ((s3 H).ext Ol0.2) d4_37 rfl ?_
  intro T3 X3 e3
  refine g_ac X3 K (q := 54) (same := false) d4_40 rfl rfl (decide_eq_false fun q => (Fld.ne (f5_ordinal H) (f3_ordinal H) (by simp)) (Value.ref.inj q)) (by decide) (by decide) ?_
  refine g_aloadN X3 K (q := 55) d4_54 rfl rfl rfl ?_
  refine g_gets X3 K (q := 58) (w32 H) e3 ((s4 H).ext Ol0.2) d4_55 rfl ?_
  intro T4 X4 e4
  refine g_ac X4 K (q := 72) (same := false) d4_58 rfl rfl (decide_eq_false fun q => (Fld.ne (f5_ordinal H) (f4_ordinal H) (by simp)) (Value.ref.inj q)) (by decide) (by decide) ?_
  refine g_aloadN X4 K (q := 73) d4_72 rfl rfl rfl ?_
  refine g_gets X4 K (q := 76) (w27 H) e4 ((s2 H).ext Ol0.2) d4_73 rfl ?_
  intro T5 X5 e5
  refine g_ac X5 K (q := 90) (same := false) d4_76 rfl rfl (decide_eq_false fun q => (Fld.ne (f5_ordinal H) (f2_ordinal H) (by simp)) (Value.ref.inj q)) (by decide) (by decide) ?_
  refine g_aloadN X5 K (q := 91) d4_90 rfl rfl rfl ?_
  refine g_gets X5 K (q := 94) (w37 H) e5 ((s5 H).ext Ol0.2) d4_91 rfl ?_
  intro T6 X6 e6
  refine g_ac X6 K (q := 97) (same := true) d4_94 rfl rfl (decide_eq_true rfl) (by decide) (by decide) ?_
  refine g_iloadN X6 K (q := 98) d4_97 rfl rfl ?_
  refine g_iloadN X6 K (q := 99) d4_98 rfl rfl ?_
  by_cases hc1 : p1 < p2
  · refine g_icY X6 K (q := 106) d4_99 (tlt hc1).1 (by decide) (by decide) ?_
    refine g_iconst X6 K (q := 107) (v := (0 : Int32)) d4_106 (by decide) rfl ?_
    refine g_nret X6 K (by simp) (z' := (0 : Int32)) (by decide) d4_107 (by decide) (by decide) ?_
    exact Or.inl (⟨hc1, rfl, N0, e6⟩)
  · refine g_icN X6 K (q := 102) d4_99 (flt hc1).1 rfl ?_
    refine g_iconst X6 K (q := 103) (v := (1 : Int32)) d4_102 (by decide) rfl ?_
    refine g_goto X6 K (q := 107) d4_103 (by decide) (by decide) ?_
    refine g_nret X6 K (by simp) (z' := (1 : Int32)) (by decide) d4_107 (by decide) (by decide) ?_
    exact Or.inr (⟨hc1, rfl, N0, e6⟩)
set_option maxRecDepth 65536 in
set_option maxHeartbeats 40000000 in
theorem rm4_29 (l : Launch) {Z : State} {a0 : Array Value} (H : Hyp Z a0) (p1 : Int32) (p2 : Int32) (h0 : Heap) (Ol : Old Z Z.heap.size h0) (hc_1 : p2 < p1) :
    Mt l Z (⟨"com/example/annotable/annotable/ComparisonSwappedPinLaw", "holds", "(Lcom/example/annotable/annotable/PathQuery$Comparison;II)Z"⟩ : MethodName) method_3_code 3 (some .boolean) [] ({ frames := 0, cells := 0, slots := 0, locals := 0 } : Room) #[(.ref (ad4 Z a0)), (.int p1), (.int p2)] h0 (fun v h L => (v = some (.int (0 : Int32)) ∧ Fr Z.heap.size L ∧ h = h0)) := by
  refine g_body (plainFor_of_name pn_com_example_annotable_annotable_ComparisonSwappedPinLaw) ?_
  intro p e s m below meth c T0 K X0 e0
  refine g_entry (ef_2 m (ad4 Z a0) p1 p2) ?_
  have N0 : Fr Z.heap.size [] := Fr.nil _
  have Ol0 := Ol
  have Kp0 : Keep h0 h0 [] := Keep.refl h0 _
  refine g_aloadN X0 K (q := 1) d4_0 rfl rfl rfl ?_
  refine g_gets X0 K (q := 4) (w5 H) e0 ((s0 H).ext Ol0.2) d4_1 rfl ?_
  intro T1 X1 e1
  refine g_ac X1 K (q := 18) (same := false) d4_4 rfl rfl (decide_eq_false fun q => (Fld.ne (f4_ordinal H) (f0_ordinal H) (by simp)) (Value.ref.inj q)) (by decide) (by decide) ?_
  refine g_aloadN X1 K (q := 19) d4_18 rfl rfl rfl ?_
  refine g_gets X1 K (q := 22) (w25 H) e1 ((s1 H).ext Ol0.2) d4_19 rfl ?_
  intro T2 X2 e2
  refine g_ac X2 K (q := 36) (same := false) d4_22 rfl rfl (decide_eq_false fun q => (Fld.ne (f4_ordinal H) (f1_ordinal H) (by simp)) (Value.ref.inj q)) (by decide) (by decide) ?_
  refine g_aloadN X2 K (q := 37) d4_36 rfl rfl rfl ?_
  refine g_gets X2 K (q := 40) (w31 H) e2 ((s3 H).ext Ol0.2) d4_37 rfl ?_
  intro T3 X3 e3
  refine g_ac X3 K (q := 54) (same := false) d4_40 rfl rfl (decide_eq_false fun q => (Fld.ne (f4_ordinal H) (f3_ordinal H) (by simp)) (Value.ref.inj q)) (by decide) (by decide) ?_
  refine g_aloadN X3 K (q := 55) d4_54 rfl rfl rfl ?_
  refine g_gets X3 K (q := 58) (w32 H) e3 ((s4 H).ext Ol0.2) d4_55 rfl ?_
  intro T4 X4 e4
  refine g_ac X4 K (q := 61) (same := true) d4_58 rfl rfl (decide_eq_true rfl) (by decide) (by decide) ?_
  refine g_iloadN X4 K (q := 62) d4_61 rfl rfl ?_
  refine g_iloadN X4 K (q := 63) d4_62 rfl rfl ?_
  refine g_icY X4 K (q := 70) d4_63 (tlt hc_1).2.2.1 (by decide) (by decide) ?_
  refine g_iconst X4 K (q := 71) (v := (0 : Int32)) d4_70 (by decide) rfl ?_
  refine g_nret X4 K (by simp) (z' := (0 : Int32)) (by decide) d4_71 (by decide) (by decide) ?_
  exact ⟨rfl, N0, e4⟩
set_option maxRecDepth 65536 in
set_option maxHeartbeats 40000000 in
theorem rm4_30 (l : Launch) {Z : State} {a0 : Array Value} (H : Hyp Z a0) (p1 : Int32) (p2 : Int32) (h0 : Heap) (Ol : Old Z Z.heap.size h0) (hc_1 : ¬ (p2 < p1)) :
    Mt l Z (⟨"com/example/annotable/annotable/ComparisonSwappedPinLaw", "holds", "(Lcom/example/annotable/annotable/PathQuery$Comparison;II)Z"⟩ : MethodName) method_3_code 3 (some .boolean) [] ({ frames := 0, cells := 0, slots := 0, locals := 0 } : Room) #[(.ref (ad4 Z a0)), (.int p1), (.int p2)] h0 (fun v h L => (v = some (.int (1 : Int32)) ∧ Fr Z.heap.size L ∧ h = h0)) := by
  refine g_body (plainFor_of_name pn_com_example_annotable_annotable_ComparisonSwappedPinLaw) ?_
  intro p e s m below meth c T0 K X0 e0
  refine g_entry (ef_2 m (ad4 Z a0) p1 p2) ?_
  have N0 : Fr Z.heap.size [] := Fr.nil _
  have Ol0 := Ol
  have Kp0 : Keep h0 h0 [] := Keep.refl h0 _
  refine g_aloadN X0 K (q := 1) d4_0 rfl rfl rfl ?_
  refine g_gets X0 K (q := 4) (w5 H) e0 ((s0 H).ext Ol0.2) d4_1 rfl ?_
  intro T1 X1 e1
  refine g_ac X1 K (q := 18) (same := false) d4_4 rfl rfl (decide_eq_false fun q => (Fld.ne (f4_ordinal H) (f0_ordinal H) (by simp)) (Value.ref.inj q)) (by decide) (by decide) ?_
  refine g_aloadN X1 K (q := 19) d4_18 rfl rfl rfl ?_
  refine g_gets X1 K (q := 22) (w25 H) e1 ((s1 H).ext Ol0.2) d4_19 rfl ?_
  intro T2 X2 e2
  refine g_ac X2 K (q := 36) (same := false) d4_22 rfl rfl (decide_eq_false fun q => (Fld.ne (f4_ordinal H) (f1_ordinal H) (by simp)) (Value.ref.inj q)) (by decide) (by decide) ?_
  refine g_aloadN X2 K (q := 37) d4_36 rfl rfl rfl ?_
  refine g_gets X2 K (q := 40) (w31 H) e2 ((s3 H).ext Ol0.2) d4_37 rfl ?_
  intro T3 X3 e3
  refine g_ac X3 K (q := 54) (same := false) d4_40 rfl rfl (decide_eq_false fun q => (Fld.ne (f4_ordinal H) (f3_ordinal H) (by simp)) (Value.ref.inj q)) (by decide) (by decide) ?_
  refine g_aloadN X3 K (q := 55) d4_54 rfl rfl rfl ?_
  refine g_gets X3 K (q := 58) (w32 H) e3 ((s4 H).ext Ol0.2) d4_55 rfl ?_
  intro T4 X4 e4
  refine g_ac X4 K (q := 61) (same := true) d4_58 rfl rfl (decide_eq_true rfl) (by decide) (by decide) ?_
  refine g_iloadN X4 K (q := 62) d4_61 rfl rfl ?_
  refine g_iloadN X4 K (q := 63) d4_62 rfl rfl ?_
  refine g_icN X4 K (q := 66) d4_63 (flt hc_1).2.2.1 rfl ?_
  refine g_iconst X4 K (q := 67) (v := (1 : Int32)) d4_66 (by decide) rfl ?_
  refine g_goto X4 K (q := 71) d4_67 (by decide) (by decide) ?_
  refine g_nret X4 K (by simp) (z' := (1 : Int32)) (by decide) d4_71 (by decide) (by decide) ?_
  exact ⟨rfl, N0, e4⟩
set_option maxRecDepth 65536 in
set_option maxHeartbeats 40000000 in
theorem rm0 (l : Launch) {Z : State} {a0 : Array Value} (H : Hyp Z a0) (p0 : Int32) (p1 : Int32) (p2 : Int32) (p3 : Int32) (h0 : Heap) (Ol : Old Z Z.heap.size h0) :
    Mt l Z x code maxLocals ret tables_1 room_1 #[(.int p0), (.int p1), (.int p2), (.int p3)] h0 (fun v h L => v = some (.int 1) ∧ Fr Z.heap.size L) := by
  refine g_body (bytes := code) (maxL := maxLocals) (ret := some .boolean) (plainFor_of_name pn_com_example_annotable_annotable_ComparisonSwappedPinLaw) ?_
  intro p e s m below meth c T0 K X0 e0
  refine g_entry (ef_3 m p0 p1 p2 p3) ?_
  have N0 : Fr Z.heap.size [] := Fr.nil _
  have Ol0 : Old Z Z.heap.size h0 := Ol
  refine g_iloadN X0 K (q := 1) at_0 rfl rfl ?_
  refine g_iconst X0 K (q := 2) (v := (1 : Int32)) at_1 (by decide) rfl ?_
  refine g_iand X0 K (q := 3) at_2 rfl rfl ?_
  by_cases hc1 : (p3 &&& (1 : Int32)) = (0 : Int32)
  · refine g_ifY X0 K (q := 18) at_3 (teq hc1).1 (by decide) (by decide) ?_
    refine g_iloadN X0 K (q := 19) at_18 rfl rfl ?_
    refine g_istore X0 K (q := 21) (L' := #[.val (.int p0), .val (.int p1), .val (.int p2), .val (.int p3), .val (.int p2), .unset, .unset, .unset, .unset]) at_19 rfl rfl ?_
    refine g_iloadN X0 K (q := 22) at_21 rfl rfl ?_
    refine g_static X0 K (q := 25) (W := 0) (w0 H) (w1 H) (w2 H) (w3 H) (by decide) (rm1_0 l H p0 h0 Ol0) e0 rfl (argsL := [(.int p0)]) (rest := []) (lenOf pd_0 rfl) rfl rfl (Nat.le_of_eq rfl) at_22 (by decide) (by decide) (by decide) (by decide) rfl ?_
    rintro T1 v1 L1 X1 (⟨hc2, rfl, N1q, e1⟩ | ⟨hc3, rfl, N1q, e1⟩ | ⟨hc4, rfl, N1q, e1⟩ | ⟨hc5, rfl, N1q, e1⟩ | ⟨hc6, rfl, N1q, e1⟩ | ⟨hc7, rfl, N1q, e1⟩)
    · have N1 := Fr.app N0 N1q
      show Go p e below _ T1 (mkF m 25 #[.val (.int p0), .val (.int p1), .val (.int p2), .val (.int p3), .val (.int p2), .unset, .unset, .unset, .unset] [(.ref (ad0 Z a0))])
      refine g_astore X1 K (q := 27) (L' := #[.val (.int p0), .val (.int p1), .val (.int p2), .val (.int p3), .val (.int p2), .val (.ref (ad0 Z a0)), .unset, .unset, .unset]) at_25 rfl rfl rfl ?_
      refine g_aload X1 K (q := 29) at_27 rfl rfl rfl ?_
      refine g_virtual X1 K (q := 32) (W := 0) (a := (ad0 Z a0)) (w8 H) (w9 H) (nf_self K (w11 H)) (w11 H) (w10 H) (w6 H) (w12 H) (by decide) (rm2_2 l H h0 Ol0) e1 ((x0 H).ext Ol0.2) rfl (argsL := []) (rest := []) (lenOf pd_2 rfl) rfl rfl (Nat.le_of_eq rfl) at_29 (by decide) (by decide) (by decide) (by decide) rfl ?_
      rintro T2 v2 L2 X2 ⟨rfl, N2q, e2⟩
      have N2 := Fr.app N1 N2q
      show Go p e below _ T2 (mkF m 32 #[.val (.int p0), .val (.int p1), .val (.int p2), .val (.int p3), .val (.int p2), .val (.ref (ad0 Z a0)), .unset, .unset, .unset] [(.ref (ad0 Z a0))])
      refine g_astore X2 K (q := 34) (L' := #[.val (.int p0), .val (.int p1), .val (.int p2), .val (.int p3), .val (.int p2), .val (.ref (ad0 Z a0)), .val (.ref (ad0 Z a0)), .unset, .unset]) at_32 rfl rfl rfl ?_
      refine g_aload X2 K (q := 36) at_34 rfl rfl rfl ?_
      refine g_nonnullY X2 K (q := 41) at_36 (by decide) (by decide) ?_
      refine g_aload X2 K (q := 43) at_41 rfl rfl rfl ?_
      refine g_iloadN X2 K (q := 44) at_43 rfl rfl ?_
      refine g_iload X2 K (q := 46) at_44 rfl rfl ?_
      refine g_static X2 K (q := 49) (W := 0) (w22 H) (w23 H) (w2 H) (w24 H) (by decide) (rm4_3 l H p1 p2 h0 Ol0) e2 rfl (argsL := [(.ref (ad0 Z a0)), (.int p1), (.int p2)]) (rest := []) (lenOf pd_3 rfl) rfl rfl (Nat.le_of_eq rfl) at_46 (by decide) (by decide) (by decide) (by decide) rfl ?_
      rintro T3 v3 L3 X3 (⟨hc8, rfl, N3q, e3⟩ | ⟨hc9, rfl, N3q, e3⟩)
      · have N3 := Fr.app N2 N3q
        show Go p e below _ T3 (mkF m 49 #[.val (.int p0), .val (.int p1), .val (.int p2), .val (.int p3), .val (.int p2), .val (.ref (ad0 Z a0)), .val (.ref (ad0 Z a0)), .unset, .unset] [(.int (1 : Int32))])
        refine g_aload X3 K (q := 51) at_49 rfl rfl rfl ?_
        refine g_iload X3 K (q := 53) at_51 rfl rfl ?_
        refine g_iloadN X3 K (q := 54) at_53 rfl rfl ?_
        refine g_static X3 K (q := 57) (W := 1) (w22 H) (w23 H) (w2 H) (w24 H) (by decide) (rm4_4 l H p2 p1 h0 Ol0 (hc8).symm) e3 rfl (argsL := [(.ref (ad0 Z a0)), (.int p2), (.int p1)]) (rest := [(.int (1 : Int32))]) (lenOf pd_3 rfl) rfl rfl (Nat.le_of_eq rfl) at_54 (by decide) (by decide) (by decide) (by decide) rfl ?_
        rintro T4 v4 L4 X4 ⟨rfl, N4q, e4⟩
        have N4 := Fr.app N3 N4q
        show Go p e below _ T4 (mkF m 57 #[.val (.int p0), .val (.int p1), .val (.int p2), .val (.int p3), .val (.int p2), .val (.ref (ad0 Z a0)), .val (.ref (ad0 Z a0)), .unset, .unset] [(.int (1 : Int32)), (.int (1 : Int32))])
        refine g_icN X4 K (q := 60) at_57 (by decide) rfl ?_
        refine g_iconst X4 K (q := 61) (v := (1 : Int32)) at_60 (by decide) rfl ?_
        refine g_goto X4 K (q := 65) at_61 (by decide) (by decide) ?_
        refine g_istore X4 K (q := 67) (L' := #[.val (.int p0), .val (.int p1), .val (.int p2), .val (.int p3), .val (.int p2), .val (.ref (ad0 Z a0)), .val (.ref (ad0 Z a0)), .val (.int (1 : Int32)), .unset]) at_65 rfl rfl ?_
        refine g_aload X4 K (q := 69) at_67 rfl rfl rfl ?_
        refine g_virtual X4 K (q := 72) (W := 0) (a := (ad0 Z a0)) (w8 H) (w9 H) (nf_self K (w11 H)) (w11 H) (w10 H) (w6 H) (w12 H) (by decide) (rm2_2 l H h0 Ol0) e4 ((x0 H).ext Ol0.2) rfl (argsL := []) (rest := []) (lenOf pd_2 rfl) rfl rfl (Nat.le_of_eq rfl) at_69 (by decide) (by decide) (by decide) (by decide) rfl ?_
        rintro T5 v5 L5 X5 ⟨rfl, N5q, e5⟩
        have N5 := Fr.app N4 N5q
        show Go p e below _ T5 (mkF m 72 #[.val (.int p0), .val (.int p1), .val (.int p2), .val (.int p3), .val (.int p2), .val (.ref (ad0 Z a0)), .val (.ref (ad0 Z a0)), .val (.int (1 : Int32)), .unset] [(.ref (ad0 Z a0))])
        refine g_aload X5 K (q := 74) at_72 rfl rfl rfl ?_
        refine g_ac X5 K (q := 77) (same := true) at_74 rfl rfl (decide_eq_true rfl) (by decide) (by decide) ?_
        refine g_iconst X5 K (q := 78) (v := (1 : Int32)) at_77 (by decide) rfl ?_
        refine g_goto X5 K (q := 82) at_78 (by decide) (by decide) ?_
        refine g_istore X5 K (q := 84) (L' := #[.val (.int p0), .val (.int p1), .val (.int p2), .val (.int p3), .val (.int p2), .val (.ref (ad0 Z a0)), .val (.ref (ad0 Z a0)), .val (.int (1 : Int32)), .val (.int (1 : Int32))]) at_82 rfl rfl ?_
        refine g_iload X5 K (q := 86) at_84 rfl rfl ?_
        refine g_ifN X5 K (q := 89) at_86 (by decide) rfl ?_
        refine g_iload X5 K (q := 91) at_89 rfl rfl ?_
        refine g_ifN X5 K (q := 94) at_91 (by decide) rfl ?_
        refine g_iconst X5 K (q := 95) (v := (1 : Int32)) at_94 (by decide) rfl ?_
        refine g_goto X5 K (q := 99) at_95 (by decide) (by decide) ?_
        refine g_nret X5 K (by simp) (z' := (1 : Int32)) (by decide) at_99 (by decide) (by decide) ?_
        exact ⟨rfl, N5⟩
      · have N3 := Fr.app N2 N3q
        show Go p e below _ T3 (mkF m 49 #[.val (.int p0), .val (.int p1), .val (.int p2), .val (.int p3), .val (.int p2), .val (.ref (ad0 Z a0)), .val (.ref (ad0 Z a0)), .unset, .unset] [(.int (0 : Int32))])
        refine g_aload X3 K (q := 51) at_49 rfl rfl rfl ?_
        refine g_iload X3 K (q := 53) at_51 rfl rfl ?_
        refine g_iloadN X3 K (q := 54) at_53 rfl rfl ?_
        refine g_static X3 K (q := 57) (W := 1) (w22 H) (w23 H) (w2 H) (w24 H) (by decide) (rm4_5 l H p2 p1 h0 Ol0 (fun z => hc9 z.symm)) e3 rfl (argsL := [(.ref (ad0 Z a0)), (.int p2), (.int p1)]) (rest := [(.int (0 : Int32))]) (lenOf pd_3 rfl) rfl rfl (Nat.le_of_eq rfl) at_54 (by decide) (by decide) (by decide) (by decide) rfl ?_
        rintro T6 v6 L6 X6 ⟨rfl, N6q, e6⟩
        have N6 := Fr.app N3 N6q
        show Go p e below _ T6 (mkF m 57 #[.val (.int p0), .val (.int p1), .val (.int p2), .val (.int p3), .val (.int p2), .val (.ref (ad0 Z a0)), .val (.ref (ad0 Z a0)), .unset, .unset] [(.int (0 : Int32)), (.int (0 : Int32))])
        refine g_icN X6 K (q := 60) at_57 (by decide) rfl ?_
        refine g_iconst X6 K (q := 61) (v := (1 : Int32)) at_60 (by decide) rfl ?_
        refine g_goto X6 K (q := 65) at_61 (by decide) (by decide) ?_
        refine g_istore X6 K (q := 67) (L' := #[.val (.int p0), .val (.int p1), .val (.int p2), .val (.int p3), .val (.int p2), .val (.ref (ad0 Z a0)), .val (.ref (ad0 Z a0)), .val (.int (1 : Int32)), .unset]) at_65 rfl rfl ?_
        refine g_aload X6 K (q := 69) at_67 rfl rfl rfl ?_
        refine g_virtual X6 K (q := 72) (W := 0) (a := (ad0 Z a0)) (w8 H) (w9 H) (nf_self K (w11 H)) (w11 H) (w10 H) (w6 H) (w12 H) (by decide) (rm2_2 l H h0 Ol0) e6 ((x0 H).ext Ol0.2) rfl (argsL := []) (rest := []) (lenOf pd_2 rfl) rfl rfl (Nat.le_of_eq rfl) at_69 (by decide) (by decide) (by decide) (by decide) rfl ?_
        rintro T7 v7 L7 X7 ⟨rfl, N7q, e7⟩
        have N7 := Fr.app N6 N7q
        show Go p e below _ T7 (mkF m 72 #[.val (.int p0), .val (.int p1), .val (.int p2), .val (.int p3), .val (.int p2), .val (.ref (ad0 Z a0)), .val (.ref (ad0 Z a0)), .val (.int (1 : Int32)), .unset] [(.ref (ad0 Z a0))])
        refine g_aload X7 K (q := 74) at_72 rfl rfl rfl ?_
        refine g_ac X7 K (q := 77) (same := true) at_74 rfl rfl (decide_eq_true rfl) (by decide) (by decide) ?_
        refine g_iconst X7 K (q := 78) (v := (1 : Int32)) at_77 (by decide) rfl ?_
        refine g_goto X7 K (q := 82) at_78 (by decide) (by decide) ?_
        refine g_istore X7 K (q := 84) (L' := #[.val (.int p0), .val (.int p1), .val (.int p2), .val (.int p3), .val (.int p2), .val (.ref (ad0 Z a0)), .val (.ref (ad0 Z a0)), .val (.int (1 : Int32)), .val (.int (1 : Int32))]) at_82 rfl rfl ?_
        refine g_iload X7 K (q := 86) at_84 rfl rfl ?_
        refine g_ifN X7 K (q := 89) at_86 (by decide) rfl ?_
        refine g_iload X7 K (q := 91) at_89 rfl rfl ?_
        refine g_ifN X7 K (q := 94) at_91 (by decide) rfl ?_
        refine g_iconst X7 K (q := 95) (v := (1 : Int32)) at_94 (by decide) rfl ?_
        refine g_goto X7 K (q := 99) at_95 (by decide) (by decide) ?_
        refine g_nret X7 K (by simp) (z' := (1 : Int32)) (by decide) at_99 (by decide) (by decide) ?_
        exact ⟨rfl, N7⟩
    · have N1 := Fr.app N0 N1q
      show Go p e below _ T1 (mkF m 25 #[.val (.int p0), .val (.int p1), .val (.int p2), .val (.int p3), .val (.int p2), .unset, .unset, .unset, .unset] [(.ref (ad1 Z a0))])
      refine g_astore X1 K (q := 27) (L' := #[.val (.int p0), .val (.int p1), .val (.int p2), .val (.int p3), .val (.int p2), .val (.ref (ad1 Z a0)), .unset, .unset, .unset]) at_25 rfl rfl rfl ?_
      refine g_aload X1 K (q := 29) at_27 rfl rfl rfl ?_
      refine g_virtual X1 K (q := 32) (W := 0) (a := (ad1 Z a0)) (w8 H) (w9 H) (nf_self K (w11 H)) (w11 H) (w10 H) (w6 H) (w12 H) (by decide) (rm2_7 l H h0 Ol0) e1 ((x1 H).ext Ol0.2) rfl (argsL := []) (rest := []) (lenOf pd_2 rfl) rfl rfl (Nat.le_of_eq rfl) at_29 (by decide) (by decide) (by decide) (by decide) rfl ?_
      rintro T8 v8 L8 X8 ⟨rfl, N8q, e8⟩
      have N8 := Fr.app N1 N8q
      show Go p e below _ T8 (mkF m 32 #[.val (.int p0), .val (.int p1), .val (.int p2), .val (.int p3), .val (.int p2), .val (.ref (ad1 Z a0)), .unset, .unset, .unset] [(.ref (ad1 Z a0))])
      refine g_astore X8 K (q := 34) (L' := #[.val (.int p0), .val (.int p1), .val (.int p2), .val (.int p3), .val (.int p2), .val (.ref (ad1 Z a0)), .val (.ref (ad1 Z a0)), .unset, .unset]) at_32 rfl rfl rfl ?_
      refine g_aload X8 K (q := 36) at_34 rfl rfl rfl ?_
      refine g_nonnullY X8 K (q := 41) at_36 (by decide) (by decide) ?_
      refine g_aload X8 K (q := 43) at_41 rfl rfl rfl ?_
      refine g_iloadN X8 K (q := 44) at_43 rfl rfl ?_
      refine g_iload X8 K (q := 46) at_44 rfl rfl ?_
      refine g_static X8 K (q := 49) (W := 0) (w22 H) (w23 H) (w2 H) (w24 H) (by decide) (rm4_8 l H p1 p2 h0 Ol0) e8 rfl (argsL := [(.ref (ad1 Z a0)), (.int p1), (.int p2)]) (rest := []) (lenOf pd_3 rfl) rfl rfl (Nat.le_of_eq rfl) at_46 (by decide) (by decide) (by decide) (by decide) rfl ?_
      rintro T9 v9 L9 X9 (⟨hc10, rfl, N9q, e9⟩ | ⟨hc11, rfl, N9q, e9⟩)
      · have N9 := Fr.app N8 N9q
        show Go p e below _ T9 (mkF m 49 #[.val (.int p0), .val (.int p1), .val (.int p2), .val (.int p3), .val (.int p2), .val (.ref (ad1 Z a0)), .val (.ref (ad1 Z a0)), .unset, .unset] [(.int (0 : Int32))])
        refine g_aload X9 K (q := 51) at_49 rfl rfl rfl ?_
        refine g_iload X9 K (q := 53) at_51 rfl rfl ?_
        refine g_iloadN X9 K (q := 54) at_53 rfl rfl ?_
        refine g_static X9 K (q := 57) (W := 1) (w22 H) (w23 H) (w2 H) (w24 H) (by decide) (rm4_9 l H p2 p1 h0 Ol0 (hc10).symm) e9 rfl (argsL := [(.ref (ad1 Z a0)), (.int p2), (.int p1)]) (rest := [(.int (0 : Int32))]) (lenOf pd_3 rfl) rfl rfl (Nat.le_of_eq rfl) at_54 (by decide) (by decide) (by decide) (by decide) rfl ?_
        rintro T10 v10 L10 X10 ⟨rfl, N10q, e10⟩
        have N10 := Fr.app N9 N10q
        show Go p e below _ T10 (mkF m 57 #[.val (.int p0), .val (.int p1), .val (.int p2), .val (.int p3), .val (.int p2), .val (.ref (ad1 Z a0)), .val (.ref (ad1 Z a0)), .unset, .unset] [(.int (0 : Int32)), (.int (0 : Int32))])
        refine g_icN X10 K (q := 60) at_57 (by decide) rfl ?_
        refine g_iconst X10 K (q := 61) (v := (1 : Int32)) at_60 (by decide) rfl ?_
        refine g_goto X10 K (q := 65) at_61 (by decide) (by decide) ?_
        refine g_istore X10 K (q := 67) (L' := #[.val (.int p0), .val (.int p1), .val (.int p2), .val (.int p3), .val (.int p2), .val (.ref (ad1 Z a0)), .val (.ref (ad1 Z a0)), .val (.int (1 : Int32)), .unset]) at_65 rfl rfl ?_
        refine g_aload X10 K (q := 69) at_67 rfl rfl rfl ?_
        refine g_virtual X10 K (q := 72) (W := 0) (a := (ad1 Z a0)) (w8 H) (w9 H) (nf_self K (w11 H)) (w11 H) (w10 H) (w6 H) (w12 H) (by decide) (rm2_7 l H h0 Ol0) e10 ((x1 H).ext Ol0.2) rfl (argsL := []) (rest := []) (lenOf pd_2 rfl) rfl rfl (Nat.le_of_eq rfl) at_69 (by decide) (by decide) (by decide) (by decide) rfl ?_
        rintro T11 v11 L11 X11 ⟨rfl, N11q, e11⟩
        have N11 := Fr.app N10 N11q
        show Go p e below _ T11 (mkF m 72 #[.val (.int p0), .val (.int p1), .val (.int p2), .val (.int p3), .val (.int p2), .val (.ref (ad1 Z a0)), .val (.ref (ad1 Z a0)), .val (.int (1 : Int32)), .unset] [(.ref (ad1 Z a0))])
        refine g_aload X11 K (q := 74) at_72 rfl rfl rfl ?_
        refine g_ac X11 K (q := 77) (same := true) at_74 rfl rfl (decide_eq_true rfl) (by decide) (by decide) ?_
        refine g_iconst X11 K (q := 78) (v := (1 : Int32)) at_77 (by decide) rfl ?_
        refine g_goto X11 K (q := 82) at_78 (by decide) (by decide) ?_
        refine g_istore X11 K (q := 84) (L' := #[.val (.int p0), .val (.int p1), .val (.int p2), .val (.int p3), .val (.int p2), .val (.ref (ad1 Z a0)), .val (.ref (ad1 Z a0)), .val (.int (1 : Int32)), .val (.int (1 : Int32))]) at_82 rfl rfl ?_
        refine g_iload X11 K (q := 86) at_84 rfl rfl ?_
        refine g_ifN X11 K (q := 89) at_86 (by decide) rfl ?_
        refine g_iload X11 K (q := 91) at_89 rfl rfl ?_
        refine g_ifN X11 K (q := 94) at_91 (by decide) rfl ?_
        refine g_iconst X11 K (q := 95) (v := (1 : Int32)) at_94 (by decide) rfl ?_
        refine g_goto X11 K (q := 99) at_95 (by decide) (by decide) ?_
        refine g_nret X11 K (by simp) (z' := (1 : Int32)) (by decide) at_99 (by decide) (by decide) ?_
        exact ⟨rfl, N11⟩
      · have N9 := Fr.app N8 N9q
        show Go p e below _ T9 (mkF m 49 #[.val (.int p0), .val (.int p1), .val (.int p2), .val (.int p3), .val (.int p2), .val (.ref (ad1 Z a0)), .val (.ref (ad1 Z a0)), .unset, .unset] [(.int (1 : Int32))])
        refine g_aload X9 K (q := 51) at_49 rfl rfl rfl ?_
        refine g_iload X9 K (q := 53) at_51 rfl rfl ?_
        refine g_iloadN X9 K (q := 54) at_53 rfl rfl ?_
        refine g_static X9 K (q := 57) (W := 1) (w22 H) (w23 H) (w2 H) (w24 H) (by decide) (rm4_10 l H p2 p1 h0 Ol0 (fun z => hc11 z.symm)) e9 rfl (argsL := [(.ref (ad1 Z a0)), (.int p2), (.int p1)]) (rest := [(.int (1 : Int32))]) (lenOf pd_3 rfl) rfl rfl (Nat.le_of_eq rfl) at_54 (by decide) (by decide) (by decide) (by decide) rfl ?_
        rintro T12 v12 L12 X12 ⟨rfl, N12q, e12⟩
        have N12 := Fr.app N9 N12q
        show Go p e below _ T12 (mkF m 57 #[.val (.int p0), .val (.int p1), .val (.int p2), .val (.int p3), .val (.int p2), .val (.ref (ad1 Z a0)), .val (.ref (ad1 Z a0)), .unset, .unset] [(.int (1 : Int32)), (.int (1 : Int32))])
        refine g_icN X12 K (q := 60) at_57 (by decide) rfl ?_
        refine g_iconst X12 K (q := 61) (v := (1 : Int32)) at_60 (by decide) rfl ?_
        refine g_goto X12 K (q := 65) at_61 (by decide) (by decide) ?_
        refine g_istore X12 K (q := 67) (L' := #[.val (.int p0), .val (.int p1), .val (.int p2), .val (.int p3), .val (.int p2), .val (.ref (ad1 Z a0)), .val (.ref (ad1 Z a0)), .val (.int (1 : Int32)), .unset]) at_65 rfl rfl ?_
        refine g_aload X12 K (q := 69) at_67 rfl rfl rfl ?_
        refine g_virtual X12 K (q := 72) (W := 0) (a := (ad1 Z a0)) (w8 H) (w9 H) (nf_self K (w11 H)) (w11 H) (w10 H) (w6 H) (w12 H) (by decide) (rm2_7 l H h0 Ol0) e12 ((x1 H).ext Ol0.2) rfl (argsL := []) (rest := []) (lenOf pd_2 rfl) rfl rfl (Nat.le_of_eq rfl) at_69 (by decide) (by decide) (by decide) (by decide) rfl ?_
        rintro T13 v13 L13 X13 ⟨rfl, N13q, e13⟩
        have N13 := Fr.app N12 N13q
        show Go p e below _ T13 (mkF m 72 #[.val (.int p0), .val (.int p1), .val (.int p2), .val (.int p3), .val (.int p2), .val (.ref (ad1 Z a0)), .val (.ref (ad1 Z a0)), .val (.int (1 : Int32)), .unset] [(.ref (ad1 Z a0))])
        refine g_aload X13 K (q := 74) at_72 rfl rfl rfl ?_
        refine g_ac X13 K (q := 77) (same := true) at_74 rfl rfl (decide_eq_true rfl) (by decide) (by decide) ?_
        refine g_iconst X13 K (q := 78) (v := (1 : Int32)) at_77 (by decide) rfl ?_
        refine g_goto X13 K (q := 82) at_78 (by decide) (by decide) ?_
        refine g_istore X13 K (q := 84) (L' := #[.val (.int p0), .val (.int p1), .val (.int p2), .val (.int p3), .val (.int p2), .val (.ref (ad1 Z a0)), .val (.ref (ad1 Z a0)), .val (.int (1 : Int32)), .val (.int (1 : Int32))]) at_82 rfl rfl ?_
        refine g_iload X13 K (q := 86) at_84 rfl rfl ?_
        refine g_ifN X13 K (q := 89) at_86 (by decide) rfl ?_
        refine g_iload X13 K (q := 91) at_89 rfl rfl ?_
        refine g_ifN X13 K (q := 94) at_91 (by decide) rfl ?_
        refine g_iconst X13 K (q := 95) (v := (1 : Int32)) at_94 (by decide) rfl ?_
        refine g_goto X13 K (q := 99) at_95 (by decide) (by decide) ?_
        refine g_nret X13 K (by simp) (z' := (1 : Int32)) (by decide) at_99 (by decide) (by decide) ?_
        exact ⟨rfl, N13⟩
    · have N1 := Fr.app N0 N1q
      show Go p e below _ T1 (mkF m 25 #[.val (.int p0), .val (.int p1), .val (.int p2), .val (.int p3), .val (.int p2), .unset, .unset, .unset, .unset] [(.ref (ad3 Z a0))])
      refine g_astore X1 K (q := 27) (L' := #[.val (.int p0), .val (.int p1), .val (.int p2), .val (.int p3), .val (.int p2), .val (.ref (ad3 Z a0)), .unset, .unset, .unset]) at_25 rfl rfl rfl ?_
      refine g_aload X1 K (q := 29) at_27 rfl rfl rfl ?_
      refine g_virtual X1 K (q := 32) (W := 0) (a := (ad3 Z a0)) (w8 H) (w9 H) (nf_self K (w11 H)) (w11 H) (w10 H) (w6 H) (w12 H) (by decide) (rm2_12 l H h0 Ol0) e1 ((x3 H).ext Ol0.2) rfl (argsL := []) (rest := []) (lenOf pd_2 rfl) rfl rfl (Nat.le_of_eq rfl) at_29 (by decide) (by decide) (by decide) (by decide) rfl ?_
      rintro T14 v14 L14 X14 ⟨rfl, N14q, e14⟩
      have N14 := Fr.app N1 N14q
      show Go p e below _ T14 (mkF m 32 #[.val (.int p0), .val (.int p1), .val (.int p2), .val (.int p3), .val (.int p2), .val (.ref (ad3 Z a0)), .unset, .unset, .unset] [(.ref (ad2 Z a0))])
      refine g_astore X14 K (q := 34) (L' := #[.val (.int p0), .val (.int p1), .val (.int p2), .val (.int p3), .val (.int p2), .val (.ref (ad3 Z a0)), .val (.ref (ad2 Z a0)), .unset, .unset]) at_32 rfl rfl rfl ?_
      refine g_aload X14 K (q := 36) at_34 rfl rfl rfl ?_
      refine g_nonnullY X14 K (q := 41) at_36 (by decide) (by decide) ?_
      refine g_aload X14 K (q := 43) at_41 rfl rfl rfl ?_
      refine g_iloadN X14 K (q := 44) at_43 rfl rfl ?_
      refine g_iload X14 K (q := 46) at_44 rfl rfl ?_
      refine g_static X14 K (q := 49) (W := 0) (w22 H) (w23 H) (w2 H) (w24 H) (by decide) (rm4_13 l H p1 p2 h0 Ol0) e14 rfl (argsL := [(.ref (ad3 Z a0)), (.int p1), (.int p2)]) (rest := []) (lenOf pd_3 rfl) rfl rfl (Nat.le_of_eq rfl) at_46 (by decide) (by decide) (by decide) (by decide) rfl ?_
      rintro T15 v15 L15 X15 (⟨hc12, rfl, N15q, e15⟩ | ⟨hc13, rfl, N15q, e15⟩)
      · have N15 := Fr.app N14 N15q
        show Go p e below _ T15 (mkF m 49 #[.val (.int p0), .val (.int p1), .val (.int p2), .val (.int p3), .val (.int p2), .val (.ref (ad3 Z a0)), .val (.ref (ad2 Z a0)), .unset, .unset] [(.int (1 : Int32))])
        refine g_aload X15 K (q := 51) at_49 rfl rfl rfl ?_
        refine g_iload X15 K (q := 53) at_51 rfl rfl ?_
        refine g_iloadN X15 K (q := 54) at_53 rfl rfl ?_
        refine g_static X15 K (q := 57) (W := 1) (w22 H) (w23 H) (w2 H) (w24 H) (by decide) (rm4_14 l H p2 p1 h0 Ol0 hc12) e15 rfl (argsL := [(.ref (ad2 Z a0)), (.int p2), (.int p1)]) (rest := [(.int (1 : Int32))]) (lenOf pd_3 rfl) rfl rfl (Nat.le_of_eq rfl) at_54 (by decide) (by decide) (by decide) (by decide) rfl ?_
        rintro T16 v16 L16 X16 ⟨rfl, N16q, e16⟩
        have N16 := Fr.app N15 N16q
        show Go p e below _ T16 (mkF m 57 #[.val (.int p0), .val (.int p1), .val (.int p2), .val (.int p3), .val (.int p2), .val (.ref (ad3 Z a0)), .val (.ref (ad2 Z a0)), .unset, .unset] [(.int (1 : Int32)), (.int (1 : Int32))])
        refine g_icN X16 K (q := 60) at_57 (by decide) rfl ?_
        refine g_iconst X16 K (q := 61) (v := (1 : Int32)) at_60 (by decide) rfl ?_
        refine g_goto X16 K (q := 65) at_61 (by decide) (by decide) ?_
        refine g_istore X16 K (q := 67) (L' := #[.val (.int p0), .val (.int p1), .val (.int p2), .val (.int p3), .val (.int p2), .val (.ref (ad3 Z a0)), .val (.ref (ad2 Z a0)), .val (.int (1 : Int32)), .unset]) at_65 rfl rfl ?_
        refine g_aload X16 K (q := 69) at_67 rfl rfl rfl ?_
        refine g_virtual X16 K (q := 72) (W := 0) (a := (ad2 Z a0)) (w8 H) (w9 H) (nf_self K (w11 H)) (w11 H) (w10 H) (w6 H) (w12 H) (by decide) (rm2_16 l H h0 Ol0) e16 ((x2 H).ext Ol0.2) rfl (argsL := []) (rest := []) (lenOf pd_2 rfl) rfl rfl (Nat.le_of_eq rfl) at_69 (by decide) (by decide) (by decide) (by decide) rfl ?_
        rintro T17 v17 L17 X17 ⟨rfl, N17q, e17⟩
        have N17 := Fr.app N16 N17q
        show Go p e below _ T17 (mkF m 72 #[.val (.int p0), .val (.int p1), .val (.int p2), .val (.int p3), .val (.int p2), .val (.ref (ad3 Z a0)), .val (.ref (ad2 Z a0)), .val (.int (1 : Int32)), .unset] [(.ref (ad3 Z a0))])
        refine g_aload X17 K (q := 74) at_72 rfl rfl rfl ?_
        refine g_ac X17 K (q := 77) (same := true) at_74 rfl rfl (decide_eq_true rfl) (by decide) (by decide) ?_
        refine g_iconst X17 K (q := 78) (v := (1 : Int32)) at_77 (by decide) rfl ?_
        refine g_goto X17 K (q := 82) at_78 (by decide) (by decide) ?_
        refine g_istore X17 K (q := 84) (L' := #[.val (.int p0), .val (.int p1), .val (.int p2), .val (.int p3), .val (.int p2), .val (.ref (ad3 Z a0)), .val (.ref (ad2 Z a0)), .val (.int (1 : Int32)), .val (.int (1 : Int32))]) at_82 rfl rfl ?_
        refine g_iload X17 K (q := 86) at_84 rfl rfl ?_
        refine g_ifN X17 K (q := 89) at_86 (by decide) rfl ?_
        refine g_iload X17 K (q := 91) at_89 rfl rfl ?_
        refine g_ifN X17 K (q := 94) at_91 (by decide) rfl ?_
        refine g_iconst X17 K (q := 95) (v := (1 : Int32)) at_94 (by decide) rfl ?_
        refine g_goto X17 K (q := 99) at_95 (by decide) (by decide) ?_
        refine g_nret X17 K (by simp) (z' := (1 : Int32)) (by decide) at_99 (by decide) (by decide) ?_
        exact ⟨rfl, N17⟩
      · have N15 := Fr.app N14 N15q
        show Go p e below _ T15 (mkF m 49 #[.val (.int p0), .val (.int p1), .val (.int p2), .val (.int p3), .val (.int p2), .val (.ref (ad3 Z a0)), .val (.ref (ad2 Z a0)), .unset, .unset] [(.int (0 : Int32))])
        refine g_aload X15 K (q := 51) at_49 rfl rfl rfl ?_
        refine g_iload X15 K (q := 53) at_51 rfl rfl ?_
        refine g_iloadN X15 K (q := 54) at_53 rfl rfl ?_
        refine g_static X15 K (q := 57) (W := 1) (w22 H) (w23 H) (w2 H) (w24 H) (by decide) (rm4_17 l H p2 p1 h0 Ol0 hc13) e15 rfl (argsL := [(.ref (ad2 Z a0)), (.int p2), (.int p1)]) (rest := [(.int (0 : Int32))]) (lenOf pd_3 rfl) rfl rfl (Nat.le_of_eq rfl) at_54 (by decide) (by decide) (by decide) (by decide) rfl ?_
        rintro T18 v18 L18 X18 ⟨rfl, N18q, e18⟩
        have N18 := Fr.app N15 N18q
        show Go p e below _ T18 (mkF m 57 #[.val (.int p0), .val (.int p1), .val (.int p2), .val (.int p3), .val (.int p2), .val (.ref (ad3 Z a0)), .val (.ref (ad2 Z a0)), .unset, .unset] [(.int (0 : Int32)), (.int (0 : Int32))])
        refine g_icN X18 K (q := 60) at_57 (by decide) rfl ?_
        refine g_iconst X18 K (q := 61) (v := (1 : Int32)) at_60 (by decide) rfl ?_
        refine g_goto X18 K (q := 65) at_61 (by decide) (by decide) ?_
        refine g_istore X18 K (q := 67) (L' := #[.val (.int p0), .val (.int p1), .val (.int p2), .val (.int p3), .val (.int p2), .val (.ref (ad3 Z a0)), .val (.ref (ad2 Z a0)), .val (.int (1 : Int32)), .unset]) at_65 rfl rfl ?_
        refine g_aload X18 K (q := 69) at_67 rfl rfl rfl ?_
        refine g_virtual X18 K (q := 72) (W := 0) (a := (ad2 Z a0)) (w8 H) (w9 H) (nf_self K (w11 H)) (w11 H) (w10 H) (w6 H) (w12 H) (by decide) (rm2_16 l H h0 Ol0) e18 ((x2 H).ext Ol0.2) rfl (argsL := []) (rest := []) (lenOf pd_2 rfl) rfl rfl (Nat.le_of_eq rfl) at_69 (by decide) (by decide) (by decide) (by decide) rfl ?_
        rintro T19 v19 L19 X19 ⟨rfl, N19q, e19⟩
        have N19 := Fr.app N18 N19q
        show Go p e below _ T19 (mkF m 72 #[.val (.int p0), .val (.int p1), .val (.int p2), .val (.int p3), .val (.int p2), .val (.ref (ad3 Z a0)), .val (.ref (ad2 Z a0)), .val (.int (1 : Int32)), .unset] [(.ref (ad3 Z a0))])
        refine g_aload X19 K (q := 74) at_72 rfl rfl rfl ?_
        refine g_ac X19 K (q := 77) (same := true) at_74 rfl rfl (decide_eq_true rfl) (by decide) (by decide) ?_
        refine g_iconst X19 K (q := 78) (v := (1 : Int32)) at_77 (by decide) rfl ?_
        refine g_goto X19 K (q := 82) at_78 (by decide) (by decide) ?_
        refine g_istore X19 K (q := 84) (L' := #[.val (.int p0), .val (.int p1), .val (.int p2), .val (.int p3), .val (.int p2), .val (.ref (ad3 Z a0)), .val (.ref (ad2 Z a0)), .val (.int (1 : Int32)), .val (.int (1 : Int32))]) at_82 rfl rfl ?_
        refine g_iload X19 K (q := 86) at_84 rfl rfl ?_
        refine g_ifN X19 K (q := 89) at_86 (by decide) rfl ?_
        refine g_iload X19 K (q := 91) at_89 rfl rfl ?_
        refine g_ifN X19 K (q := 94) at_91 (by decide) rfl ?_
        refine g_iconst X19 K (q := 95) (v := (1 : Int32)) at_94 (by decide) rfl ?_
        refine g_goto X19 K (q := 99) at_95 (by decide) (by decide) ?_
        refine g_nret X19 K (by simp) (z' := (1 : Int32)) (by decide) at_99 (by decide) (by decide) ?_
        exact ⟨rfl, N19⟩
    · have N1 := Fr.app N0 N1q
      show Go p e below _ T1 (mkF m 25 #[.val (.int p0), .val (.int p1), .val (.int p2), .val (.int p3), .val (.int p2), .unset, .unset, .unset, .unset] [(.ref (ad4 Z a0))])
      refine g_astore X1 K (q := 27) (L' := #[.val (.int p0), .val (.int p1), .val (.int p2), .val (.int p3), .val (.int p2), .val (.ref (ad4 Z a0)), .unset, .unset, .unset]) at_25 rfl rfl rfl ?_
      refine g_aload X1 K (q := 29) at_27 rfl rfl rfl ?_
      refine g_virtual X1 K (q := 32) (W := 0) (a := (ad4 Z a0)) (w8 H) (w9 H) (nf_self K (w11 H)) (w11 H) (w10 H) (w6 H) (w12 H) (by decide) (rm2_19 l H h0 Ol0) e1 ((x4 H).ext Ol0.2) rfl (argsL := []) (rest := []) (lenOf pd_2 rfl) rfl rfl (Nat.le_of_eq rfl) at_29 (by decide) (by decide) (by decide) (by decide) rfl ?_
      rintro T20 v20 L20 X20 ⟨rfl, N20q, e20⟩
      have N20 := Fr.app N1 N20q
      show Go p e below _ T20 (mkF m 32 #[.val (.int p0), .val (.int p1), .val (.int p2), .val (.int p3), .val (.int p2), .val (.ref (ad4 Z a0)), .unset, .unset, .unset] [(.ref (ad5 Z a0))])
      refine g_astore X20 K (q := 34) (L' := #[.val (.int p0), .val (.int p1), .val (.int p2), .val (.int p3), .val (.int p2), .val (.ref (ad4 Z a0)), .val (.ref (ad5 Z a0)), .unset, .unset]) at_32 rfl rfl rfl ?_
      refine g_aload X20 K (q := 36) at_34 rfl rfl rfl ?_
      refine g_nonnullY X20 K (q := 41) at_36 (by decide) (by decide) ?_
      refine g_aload X20 K (q := 43) at_41 rfl rfl rfl ?_
      refine g_iloadN X20 K (q := 44) at_43 rfl rfl ?_
      refine g_iload X20 K (q := 46) at_44 rfl rfl ?_
      refine g_static X20 K (q := 49) (W := 0) (w22 H) (w23 H) (w2 H) (w24 H) (by decide) (rm4_20 l H p1 p2 h0 Ol0) e20 rfl (argsL := [(.ref (ad4 Z a0)), (.int p1), (.int p2)]) (rest := []) (lenOf pd_3 rfl) rfl rfl (Nat.le_of_eq rfl) at_46 (by decide) (by decide) (by decide) (by decide) rfl ?_
      rintro T21 v21 L21 X21 (⟨hc14, rfl, N21q, e21⟩ | ⟨hc15, rfl, N21q, e21⟩)
      · have N21 := Fr.app N20 N21q
        show Go p e below _ T21 (mkF m 49 #[.val (.int p0), .val (.int p1), .val (.int p2), .val (.int p3), .val (.int p2), .val (.ref (ad4 Z a0)), .val (.ref (ad5 Z a0)), .unset, .unset] [(.int (0 : Int32))])
        refine g_aload X21 K (q := 51) at_49 rfl rfl rfl ?_
        refine g_iload X21 K (q := 53) at_51 rfl rfl ?_
        refine g_iloadN X21 K (q := 54) at_53 rfl rfl ?_
        refine g_static X21 K (q := 57) (W := 1) (w22 H) (w23 H) (w2 H) (w24 H) (by decide) (rm4_21 l H p2 p1 h0 Ol0 hc14) e21 rfl (argsL := [(.ref (ad5 Z a0)), (.int p2), (.int p1)]) (rest := [(.int (0 : Int32))]) (lenOf pd_3 rfl) rfl rfl (Nat.le_of_eq rfl) at_54 (by decide) (by decide) (by decide) (by decide) rfl ?_
        rintro T22 v22 L22 X22 ⟨rfl, N22q, e22⟩
        have N22 := Fr.app N21 N22q
        show Go p e below _ T22 (mkF m 57 #[.val (.int p0), .val (.int p1), .val (.int p2), .val (.int p3), .val (.int p2), .val (.ref (ad4 Z a0)), .val (.ref (ad5 Z a0)), .unset, .unset] [(.int (0 : Int32)), (.int (0 : Int32))])
        refine g_icN X22 K (q := 60) at_57 (by decide) rfl ?_
        refine g_iconst X22 K (q := 61) (v := (1 : Int32)) at_60 (by decide) rfl ?_
        refine g_goto X22 K (q := 65) at_61 (by decide) (by decide) ?_
        refine g_istore X22 K (q := 67) (L' := #[.val (.int p0), .val (.int p1), .val (.int p2), .val (.int p3), .val (.int p2), .val (.ref (ad4 Z a0)), .val (.ref (ad5 Z a0)), .val (.int (1 : Int32)), .unset]) at_65 rfl rfl ?_
        refine g_aload X22 K (q := 69) at_67 rfl rfl rfl ?_
        refine g_virtual X22 K (q := 72) (W := 0) (a := (ad5 Z a0)) (w8 H) (w9 H) (nf_self K (w11 H)) (w11 H) (w10 H) (w6 H) (w12 H) (by decide) (rm2_23 l H h0 Ol0) e22 ((x5 H).ext Ol0.2) rfl (argsL := []) (rest := []) (lenOf pd_2 rfl) rfl rfl (Nat.le_of_eq rfl) at_69 (by decide) (by decide) (by decide) (by decide) rfl ?_
        rintro T23 v23 L23 X23 ⟨rfl, N23q, e23⟩
        have N23 := Fr.app N22 N23q
        show Go p e below _ T23 (mkF m 72 #[.val (.int p0), .val (.int p1), .val (.int p2), .val (.int p3), .val (.int p2), .val (.ref (ad4 Z a0)), .val (.ref (ad5 Z a0)), .val (.int (1 : Int32)), .unset] [(.ref (ad4 Z a0))])
        refine g_aload X23 K (q := 74) at_72 rfl rfl rfl ?_
        refine g_ac X23 K (q := 77) (same := true) at_74 rfl rfl (decide_eq_true rfl) (by decide) (by decide) ?_
        refine g_iconst X23 K (q := 78) (v := (1 : Int32)) at_77 (by decide) rfl ?_
        refine g_goto X23 K (q := 82) at_78 (by decide) (by decide) ?_
        refine g_istore X23 K (q := 84) (L' := #[.val (.int p0), .val (.int p1), .val (.int p2), .val (.int p3), .val (.int p2), .val (.ref (ad4 Z a0)), .val (.ref (ad5 Z a0)), .val (.int (1 : Int32)), .val (.int (1 : Int32))]) at_82 rfl rfl ?_
        refine g_iload X23 K (q := 86) at_84 rfl rfl ?_
        refine g_ifN X23 K (q := 89) at_86 (by decide) rfl ?_
        refine g_iload X23 K (q := 91) at_89 rfl rfl ?_
        refine g_ifN X23 K (q := 94) at_91 (by decide) rfl ?_
        refine g_iconst X23 K (q := 95) (v := (1 : Int32)) at_94 (by decide) rfl ?_
        refine g_goto X23 K (q := 99) at_95 (by decide) (by decide) ?_
        refine g_nret X23 K (by simp) (z' := (1 : Int32)) (by decide) at_99 (by decide) (by decide) ?_
        exact ⟨rfl, N23⟩
      · have N21 := Fr.app N20 N21q
        show Go p e below _ T21 (mkF m 49 #[.val (.int p0), .val (.int p1), .val (.int p2), .val (.int p3), .val (.int p2), .val (.ref (ad4 Z a0)), .val (.ref (ad5 Z a0)), .unset, .unset] [(.int (1 : Int32))])
        refine g_aload X21 K (q := 51) at_49 rfl rfl rfl ?_
        refine g_iload X21 K (q := 53) at_51 rfl rfl ?_
        refine g_iloadN X21 K (q := 54) at_53 rfl rfl ?_
        refine g_static X21 K (q := 57) (W := 1) (w22 H) (w23 H) (w2 H) (w24 H) (by decide) (rm4_24 l H p2 p1 h0 Ol0 hc15) e21 rfl (argsL := [(.ref (ad5 Z a0)), (.int p2), (.int p1)]) (rest := [(.int (1 : Int32))]) (lenOf pd_3 rfl) rfl rfl (Nat.le_of_eq rfl) at_54 (by decide) (by decide) (by decide) (by decide) rfl ?_
        rintro T24 v24 L24 X24 ⟨rfl, N24q, e24⟩
        have N24 := Fr.app N21 N24q
        show Go p e below _ T24 (mkF m 57 #[.val (.int p0), .val (.int p1), .val (.int p2), .val (.int p3), .val (.int p2), .val (.ref (ad4 Z a0)), .val (.ref (ad5 Z a0)), .unset, .unset] [(.int (1 : Int32)), (.int (1 : Int32))])
        refine g_icN X24 K (q := 60) at_57 (by decide) rfl ?_
        refine g_iconst X24 K (q := 61) (v := (1 : Int32)) at_60 (by decide) rfl ?_
        refine g_goto X24 K (q := 65) at_61 (by decide) (by decide) ?_
        refine g_istore X24 K (q := 67) (L' := #[.val (.int p0), .val (.int p1), .val (.int p2), .val (.int p3), .val (.int p2), .val (.ref (ad4 Z a0)), .val (.ref (ad5 Z a0)), .val (.int (1 : Int32)), .unset]) at_65 rfl rfl ?_
        refine g_aload X24 K (q := 69) at_67 rfl rfl rfl ?_
        refine g_virtual X24 K (q := 72) (W := 0) (a := (ad5 Z a0)) (w8 H) (w9 H) (nf_self K (w11 H)) (w11 H) (w10 H) (w6 H) (w12 H) (by decide) (rm2_23 l H h0 Ol0) e24 ((x5 H).ext Ol0.2) rfl (argsL := []) (rest := []) (lenOf pd_2 rfl) rfl rfl (Nat.le_of_eq rfl) at_69 (by decide) (by decide) (by decide) (by decide) rfl ?_
        rintro T25 v25 L25 X25 ⟨rfl, N25q, e25⟩
        have N25 := Fr.app N24 N25q
        show Go p e below _ T25 (mkF m 72 #[.val (.int p0), .val (.int p1), .val (.int p2), .val (.int p3), .val (.int p2), .val (.ref (ad4 Z a0)), .val (.ref (ad5 Z a0)), .val (.int (1 : Int32)), .unset] [(.ref (ad4 Z a0))])
        refine g_aload X25 K (q := 74) at_72 rfl rfl rfl ?_
        refine g_ac X25 K (q := 77) (same := true) at_74 rfl rfl (decide_eq_true rfl) (by decide) (by decide) ?_
        refine g_iconst X25 K (q := 78) (v := (1 : Int32)) at_77 (by decide) rfl ?_
        refine g_goto X25 K (q := 82) at_78 (by decide) (by decide) ?_
        refine g_istore X25 K (q := 84) (L' := #[.val (.int p0), .val (.int p1), .val (.int p2), .val (.int p3), .val (.int p2), .val (.ref (ad4 Z a0)), .val (.ref (ad5 Z a0)), .val (.int (1 : Int32)), .val (.int (1 : Int32))]) at_82 rfl rfl ?_
        refine g_iload X25 K (q := 86) at_84 rfl rfl ?_
        refine g_ifN X25 K (q := 89) at_86 (by decide) rfl ?_
        refine g_iload X25 K (q := 91) at_89 rfl rfl ?_
        refine g_ifN X25 K (q := 94) at_91 (by decide) rfl ?_
        refine g_iconst X25 K (q := 95) (v := (1 : Int32)) at_94 (by decide) rfl ?_
        refine g_goto X25 K (q := 99) at_95 (by decide) (by decide) ?_
        refine g_nret X25 K (by simp) (z' := (1 : Int32)) (by decide) at_99 (by decide) (by decide) ?_
        exact ⟨rfl, N25⟩
    · have N1 := Fr.app N0 N1q
      show Go p e below _ T1 (mkF m 25 #[.val (.int p0), .val (.int p1), .val (.int p2), .val (.int p3), .val (.int p2), .unset, .unset, .unset, .unset] [(.ref (ad2 Z a0))])
      refine g_astore X1 K (q := 27) (L' := #[.val (.int p0), .val (.int p1), .val (.int p2), .val (.int p3), .val (.int p2), .val (.ref (ad2 Z a0)), .unset, .unset, .unset]) at_25 rfl rfl rfl ?_
      refine g_aload X1 K (q := 29) at_27 rfl rfl rfl ?_
      refine g_virtual X1 K (q := 32) (W := 0) (a := (ad2 Z a0)) (w8 H) (w9 H) (nf_self K (w11 H)) (w11 H) (w10 H) (w6 H) (w12 H) (by decide) (rm2_16 l H h0 Ol0) e1 ((x2 H).ext Ol0.2) rfl (argsL := []) (rest := []) (lenOf pd_2 rfl) rfl rfl (Nat.le_of_eq rfl) at_29 (by decide) (by decide) (by decide) (by decide) rfl ?_
      rintro T26 v26 L26 X26 ⟨rfl, N26q, e26⟩
      have N26 := Fr.app N1 N26q
      show Go p e below _ T26 (mkF m 32 #[.val (.int p0), .val (.int p1), .val (.int p2), .val (.int p3), .val (.int p2), .val (.ref (ad2 Z a0)), .unset, .unset, .unset] [(.ref (ad3 Z a0))])
      refine g_astore X26 K (q := 34) (L' := #[.val (.int p0), .val (.int p1), .val (.int p2), .val (.int p3), .val (.int p2), .val (.ref (ad2 Z a0)), .val (.ref (ad3 Z a0)), .unset, .unset]) at_32 rfl rfl rfl ?_
      refine g_aload X26 K (q := 36) at_34 rfl rfl rfl ?_
      refine g_nonnullY X26 K (q := 41) at_36 (by decide) (by decide) ?_
      refine g_aload X26 K (q := 43) at_41 rfl rfl rfl ?_
      refine g_iloadN X26 K (q := 44) at_43 rfl rfl ?_
      refine g_iload X26 K (q := 46) at_44 rfl rfl ?_
      refine g_static X26 K (q := 49) (W := 0) (w22 H) (w23 H) (w2 H) (w24 H) (by decide) (rm4_25 l H p1 p2 h0 Ol0) e26 rfl (argsL := [(.ref (ad2 Z a0)), (.int p1), (.int p2)]) (rest := []) (lenOf pd_3 rfl) rfl rfl (Nat.le_of_eq rfl) at_46 (by decide) (by decide) (by decide) (by decide) rfl ?_
      rintro T27 v27 L27 X27 (⟨hc16, rfl, N27q, e27⟩ | ⟨hc17, rfl, N27q, e27⟩)
      · have N27 := Fr.app N26 N27q
        show Go p e below _ T27 (mkF m 49 #[.val (.int p0), .val (.int p1), .val (.int p2), .val (.int p3), .val (.int p2), .val (.ref (ad2 Z a0)), .val (.ref (ad3 Z a0)), .unset, .unset] [(.int (1 : Int32))])
        refine g_aload X27 K (q := 51) at_49 rfl rfl rfl ?_
        refine g_iload X27 K (q := 53) at_51 rfl rfl ?_
        refine g_iloadN X27 K (q := 54) at_53 rfl rfl ?_
        refine g_static X27 K (q := 57) (W := 1) (w22 H) (w23 H) (w2 H) (w24 H) (by decide) (rm4_26 l H p2 p1 h0 Ol0 hc16) e27 rfl (argsL := [(.ref (ad3 Z a0)), (.int p2), (.int p1)]) (rest := [(.int (1 : Int32))]) (lenOf pd_3 rfl) rfl rfl (Nat.le_of_eq rfl) at_54 (by decide) (by decide) (by decide) (by decide) rfl ?_
        rintro T28 v28 L28 X28 ⟨rfl, N28q, e28⟩
        have N28 := Fr.app N27 N28q
        show Go p e below _ T28 (mkF m 57 #[.val (.int p0), .val (.int p1), .val (.int p2), .val (.int p3), .val (.int p2), .val (.ref (ad2 Z a0)), .val (.ref (ad3 Z a0)), .unset, .unset] [(.int (1 : Int32)), (.int (1 : Int32))])
        refine g_icN X28 K (q := 60) at_57 (by decide) rfl ?_
        refine g_iconst X28 K (q := 61) (v := (1 : Int32)) at_60 (by decide) rfl ?_
        refine g_goto X28 K (q := 65) at_61 (by decide) (by decide) ?_
        refine g_istore X28 K (q := 67) (L' := #[.val (.int p0), .val (.int p1), .val (.int p2), .val (.int p3), .val (.int p2), .val (.ref (ad2 Z a0)), .val (.ref (ad3 Z a0)), .val (.int (1 : Int32)), .unset]) at_65 rfl rfl ?_
        refine g_aload X28 K (q := 69) at_67 rfl rfl rfl ?_
        refine g_virtual X28 K (q := 72) (W := 0) (a := (ad3 Z a0)) (w8 H) (w9 H) (nf_self K (w11 H)) (w11 H) (w10 H) (w6 H) (w12 H) (by decide) (rm2_12 l H h0 Ol0) e28 ((x3 H).ext Ol0.2) rfl (argsL := []) (rest := []) (lenOf pd_2 rfl) rfl rfl (Nat.le_of_eq rfl) at_69 (by decide) (by decide) (by decide) (by decide) rfl ?_
        rintro T29 v29 L29 X29 ⟨rfl, N29q, e29⟩
        have N29 := Fr.app N28 N29q
        show Go p e below _ T29 (mkF m 72 #[.val (.int p0), .val (.int p1), .val (.int p2), .val (.int p3), .val (.int p2), .val (.ref (ad2 Z a0)), .val (.ref (ad3 Z a0)), .val (.int (1 : Int32)), .unset] [(.ref (ad2 Z a0))])
        refine g_aload X29 K (q := 74) at_72 rfl rfl rfl ?_
        refine g_ac X29 K (q := 77) (same := true) at_74 rfl rfl (decide_eq_true rfl) (by decide) (by decide) ?_
        refine g_iconst X29 K (q := 78) (v := (1 : Int32)) at_77 (by decide) rfl ?_
        refine g_goto X29 K (q := 82) at_78 (by decide) (by decide) ?_
        refine g_istore X29 K (q := 84) (L' := #[.val (.int p0), .val (.int p1), .val (.int p2), .val (.int p3), .val (.int p2), .val (.ref (ad2 Z a0)), .val (.ref (ad3 Z a0)), .val (.int (1 : Int32)), .val (.int (1 : Int32))]) at_82 rfl rfl ?_
        refine g_iload X29 K (q := 86) at_84 rfl rfl ?_
        refine g_ifN X29 K (q := 89) at_86 (by decide) rfl ?_
        refine g_iload X29 K (q := 91) at_89 rfl rfl ?_
        refine g_ifN X29 K (q := 94) at_91 (by decide) rfl ?_
        refine g_iconst X29 K (q := 95) (v := (1 : Int32)) at_94 (by decide) rfl ?_
        refine g_goto X29 K (q := 99) at_95 (by decide) (by decide) ?_
        refine g_nret X29 K (by simp) (z' := (1 : Int32)) (by decide) at_99 (by decide) (by decide) ?_
        exact ⟨rfl, N29⟩
      · have N27 := Fr.app N26 N27q
        show Go p e below _ T27 (mkF m 49 #[.val (.int p0), .val (.int p1), .val (.int p2), .val (.int p3), .val (.int p2), .val (.ref (ad2 Z a0)), .val (.ref (ad3 Z a0)), .unset, .unset] [(.int (0 : Int32))])
        refine g_aload X27 K (q := 51) at_49 rfl rfl rfl ?_
        refine g_iload X27 K (q := 53) at_51 rfl rfl ?_
        refine g_iloadN X27 K (q := 54) at_53 rfl rfl ?_
        refine g_static X27 K (q := 57) (W := 1) (w22 H) (w23 H) (w2 H) (w24 H) (by decide) (rm4_27 l H p2 p1 h0 Ol0 hc17) e27 rfl (argsL := [(.ref (ad3 Z a0)), (.int p2), (.int p1)]) (rest := [(.int (0 : Int32))]) (lenOf pd_3 rfl) rfl rfl (Nat.le_of_eq rfl) at_54 (by decide) (by decide) (by decide) (by decide) rfl ?_
        rintro T30 v30 L30 X30 ⟨rfl, N30q, e30⟩
        have N30 := Fr.app N27 N30q
        show Go p e below _ T30 (mkF m 57 #[.val (.int p0), .val (.int p1), .val (.int p2), .val (.int p3), .val (.int p2), .val (.ref (ad2 Z a0)), .val (.ref (ad3 Z a0)), .unset, .unset] [(.int (0 : Int32)), (.int (0 : Int32))])
        refine g_icN X30 K (q := 60) at_57 (by decide) rfl ?_
        refine g_iconst X30 K (q := 61) (v := (1 : Int32)) at_60 (by decide) rfl ?_
        refine g_goto X30 K (q := 65) at_61 (by decide) (by decide) ?_
        refine g_istore X30 K (q := 67) (L' := #[.val (.int p0), .val (.int p1), .val (.int p2), .val (.int p3), .val (.int p2), .val (.ref (ad2 Z a0)), .val (.ref (ad3 Z a0)), .val (.int (1 : Int32)), .unset]) at_65 rfl rfl ?_
        refine g_aload X30 K (q := 69) at_67 rfl rfl rfl ?_
        refine g_virtual X30 K (q := 72) (W := 0) (a := (ad3 Z a0)) (w8 H) (w9 H) (nf_self K (w11 H)) (w11 H) (w10 H) (w6 H) (w12 H) (by decide) (rm2_12 l H h0 Ol0) e30 ((x3 H).ext Ol0.2) rfl (argsL := []) (rest := []) (lenOf pd_2 rfl) rfl rfl (Nat.le_of_eq rfl) at_69 (by decide) (by decide) (by decide) (by decide) rfl ?_
        rintro T31 v31 L31 X31 ⟨rfl, N31q, e31⟩
        have N31 := Fr.app N30 N31q
        show Go p e below _ T31 (mkF m 72 #[.val (.int p0), .val (.int p1), .val (.int p2), .val (.int p3), .val (.int p2), .val (.ref (ad2 Z a0)), .val (.ref (ad3 Z a0)), .val (.int (1 : Int32)), .unset] [(.ref (ad2 Z a0))])
        refine g_aload X31 K (q := 74) at_72 rfl rfl rfl ?_
        refine g_ac X31 K (q := 77) (same := true) at_74 rfl rfl (decide_eq_true rfl) (by decide) (by decide) ?_
        refine g_iconst X31 K (q := 78) (v := (1 : Int32)) at_77 (by decide) rfl ?_
        refine g_goto X31 K (q := 82) at_78 (by decide) (by decide) ?_
        refine g_istore X31 K (q := 84) (L' := #[.val (.int p0), .val (.int p1), .val (.int p2), .val (.int p3), .val (.int p2), .val (.ref (ad2 Z a0)), .val (.ref (ad3 Z a0)), .val (.int (1 : Int32)), .val (.int (1 : Int32))]) at_82 rfl rfl ?_
        refine g_iload X31 K (q := 86) at_84 rfl rfl ?_
        refine g_ifN X31 K (q := 89) at_86 (by decide) rfl ?_
        refine g_iload X31 K (q := 91) at_89 rfl rfl ?_
        refine g_ifN X31 K (q := 94) at_91 (by decide) rfl ?_
        refine g_iconst X31 K (q := 95) (v := (1 : Int32)) at_94 (by decide) rfl ?_
        refine g_goto X31 K (q := 99) at_95 (by decide) (by decide) ?_
        refine g_nret X31 K (by simp) (z' := (1 : Int32)) (by decide) at_99 (by decide) (by decide) ?_
        exact ⟨rfl, N31⟩
    · have N1 := Fr.app N0 N1q
      show Go p e below _ T1 (mkF m 25 #[.val (.int p0), .val (.int p1), .val (.int p2), .val (.int p3), .val (.int p2), .unset, .unset, .unset, .unset] [(.ref (ad5 Z a0))])
      refine g_astore X1 K (q := 27) (L' := #[.val (.int p0), .val (.int p1), .val (.int p2), .val (.int p3), .val (.int p2), .val (.ref (ad5 Z a0)), .unset, .unset, .unset]) at_25 rfl rfl rfl ?_
      refine g_aload X1 K (q := 29) at_27 rfl rfl rfl ?_
      refine g_virtual X1 K (q := 32) (W := 0) (a := (ad5 Z a0)) (w8 H) (w9 H) (nf_self K (w11 H)) (w11 H) (w10 H) (w6 H) (w12 H) (by decide) (rm2_23 l H h0 Ol0) e1 ((x5 H).ext Ol0.2) rfl (argsL := []) (rest := []) (lenOf pd_2 rfl) rfl rfl (Nat.le_of_eq rfl) at_29 (by decide) (by decide) (by decide) (by decide) rfl ?_
      rintro T32 v32 L32 X32 ⟨rfl, N32q, e32⟩
      have N32 := Fr.app N1 N32q
      show Go p e below _ T32 (mkF m 32 #[.val (.int p0), .val (.int p1), .val (.int p2), .val (.int p3), .val (.int p2), .val (.ref (ad5 Z a0)), .unset, .unset, .unset] [(.ref (ad4 Z a0))])
      refine g_astore X32 K (q := 34) (L' := #[.val (.int p0), .val (.int p1), .val (.int p2), .val (.int p3), .val (.int p2), .val (.ref (ad5 Z a0)), .val (.ref (ad4 Z a0)), .unset, .unset]) at_32 rfl rfl rfl ?_
      refine g_aload X32 K (q := 36) at_34 rfl rfl rfl ?_
      refine g_nonnullY X32 K (q := 41) at_36 (by decide) (by decide) ?_
      refine g_aload X32 K (q := 43) at_41 rfl rfl rfl ?_
      refine g_iloadN X32 K (q := 44) at_43 rfl rfl ?_
      refine g_iload X32 K (q := 46) at_44 rfl rfl ?_
      refine g_static X32 K (q := 49) (W := 0) (w22 H) (w23 H) (w2 H) (w24 H) (by decide) (rm4_28 l H p1 p2 h0 Ol0) e32 rfl (argsL := [(.ref (ad5 Z a0)), (.int p1), (.int p2)]) (rest := []) (lenOf pd_3 rfl) rfl rfl (Nat.le_of_eq rfl) at_46 (by decide) (by decide) (by decide) (by decide) rfl ?_
      rintro T33 v33 L33 X33 (⟨hc18, rfl, N33q, e33⟩ | ⟨hc19, rfl, N33q, e33⟩)
      · have N33 := Fr.app N32 N33q
        show Go p e below _ T33 (mkF m 49 #[.val (.int p0), .val (.int p1), .val (.int p2), .val (.int p3), .val (.int p2), .val (.ref (ad5 Z a0)), .val (.ref (ad4 Z a0)), .unset, .unset] [(.int (0 : Int32))])
        refine g_aload X33 K (q := 51) at_49 rfl rfl rfl ?_
        refine g_iload X33 K (q := 53) at_51 rfl rfl ?_
        refine g_iloadN X33 K (q := 54) at_53 rfl rfl ?_
        refine g_static X33 K (q := 57) (W := 1) (w22 H) (w23 H) (w2 H) (w24 H) (by decide) (rm4_29 l H p2 p1 h0 Ol0 hc18) e33 rfl (argsL := [(.ref (ad4 Z a0)), (.int p2), (.int p1)]) (rest := [(.int (0 : Int32))]) (lenOf pd_3 rfl) rfl rfl (Nat.le_of_eq rfl) at_54 (by decide) (by decide) (by decide) (by decide) rfl ?_
        rintro T34 v34 L34 X34 ⟨rfl, N34q, e34⟩
        have N34 := Fr.app N33 N34q
        show Go p e below _ T34 (mkF m 57 #[.val (.int p0), .val (.int p1), .val (.int p2), .val (.int p3), .val (.int p2), .val (.ref (ad5 Z a0)), .val (.ref (ad4 Z a0)), .unset, .unset] [(.int (0 : Int32)), (.int (0 : Int32))])
        refine g_icN X34 K (q := 60) at_57 (by decide) rfl ?_
        refine g_iconst X34 K (q := 61) (v := (1 : Int32)) at_60 (by decide) rfl ?_
        refine g_goto X34 K (q := 65) at_61 (by decide) (by decide) ?_
        refine g_istore X34 K (q := 67) (L' := #[.val (.int p0), .val (.int p1), .val (.int p2), .val (.int p3), .val (.int p2), .val (.ref (ad5 Z a0)), .val (.ref (ad4 Z a0)), .val (.int (1 : Int32)), .unset]) at_65 rfl rfl ?_
        refine g_aload X34 K (q := 69) at_67 rfl rfl rfl ?_
        refine g_virtual X34 K (q := 72) (W := 0) (a := (ad4 Z a0)) (w8 H) (w9 H) (nf_self K (w11 H)) (w11 H) (w10 H) (w6 H) (w12 H) (by decide) (rm2_19 l H h0 Ol0) e34 ((x4 H).ext Ol0.2) rfl (argsL := []) (rest := []) (lenOf pd_2 rfl) rfl rfl (Nat.le_of_eq rfl) at_69 (by decide) (by decide) (by decide) (by decide) rfl ?_
        rintro T35 v35 L35 X35 ⟨rfl, N35q, e35⟩
        have N35 := Fr.app N34 N35q
        show Go p e below _ T35 (mkF m 72 #[.val (.int p0), .val (.int p1), .val (.int p2), .val (.int p3), .val (.int p2), .val (.ref (ad5 Z a0)), .val (.ref (ad4 Z a0)), .val (.int (1 : Int32)), .unset] [(.ref (ad5 Z a0))])
        refine g_aload X35 K (q := 74) at_72 rfl rfl rfl ?_
        refine g_ac X35 K (q := 77) (same := true) at_74 rfl rfl (decide_eq_true rfl) (by decide) (by decide) ?_
        refine g_iconst X35 K (q := 78) (v := (1 : Int32)) at_77 (by decide) rfl ?_
        refine g_goto X35 K (q := 82) at_78 (by decide) (by decide) ?_
        refine g_istore X35 K (q := 84) (L' := #[.val (.int p0), .val (.int p1), .val (.int p2), .val (.int p3), .val (.int p2), .val (.ref (ad5 Z a0)), .val (.ref (ad4 Z a0)), .val (.int (1 : Int32)), .val (.int (1 : Int32))]) at_82 rfl rfl ?_
        refine g_iload X35 K (q := 86) at_84 rfl rfl ?_
        refine g_ifN X35 K (q := 89) at_86 (by decide) rfl ?_
        refine g_iload X35 K (q := 91) at_89 rfl rfl ?_
        refine g_ifN X35 K (q := 94) at_91 (by decide) rfl ?_
        refine g_iconst X35 K (q := 95) (v := (1 : Int32)) at_94 (by decide) rfl ?_
        refine g_goto X35 K (q := 99) at_95 (by decide) (by decide) ?_
        refine g_nret X35 K (by simp) (z' := (1 : Int32)) (by decide) at_99 (by decide) (by decide) ?_
        exact ⟨rfl, N35⟩
      · have N33 := Fr.app N32 N33q
        show Go p e below _ T33 (mkF m 49 #[.val (.int p0), .val (.int p1), .val (.int p2), .val (.int p3), .val (.int p2), .val (.ref (ad5 Z a0)), .val (.ref (ad4 Z a0)), .unset, .unset] [(.int (1 : Int32))])
        refine g_aload X33 K (q := 51) at_49 rfl rfl rfl ?_
        refine g_iload X33 K (q := 53) at_51 rfl rfl ?_
        refine g_iloadN X33 K (q := 54) at_53 rfl rfl ?_
        refine g_static X33 K (q := 57) (W := 1) (w22 H) (w23 H) (w2 H) (w24 H) (by decide) (rm4_30 l H p2 p1 h0 Ol0 hc19) e33 rfl (argsL := [(.ref (ad4 Z a0)), (.int p2), (.int p1)]) (rest := [(.int (1 : Int32))]) (lenOf pd_3 rfl) rfl rfl (Nat.le_of_eq rfl) at_54 (by decide) (by decide) (by decide) (by decide) rfl ?_
        rintro T36 v36 L36 X36 ⟨rfl, N36q, e36⟩
        have N36 := Fr.app N33 N36q
        show Go p e below _ T36 (mkF m 57 #[.val (.int p0), .val (.int p1), .val (.int p2), .val (.int p3), .val (.int p2), .val (.ref (ad5 Z a0)), .val (.ref (ad4 Z a0)), .unset, .unset] [(.int (1 : Int32)), (.int (1 : Int32))])
        refine g_icN X36 K (q := 60) at_57 (by decide) rfl ?_
        refine g_iconst X36 K (q := 61) (v := (1 : Int32)) at_60 (by decide) rfl ?_
        refine g_goto X36 K (q := 65) at_61 (by decide) (by decide) ?_
        refine g_istore X36 K (q := 67) (L' := #[.val (.int p0), .val (.int p1), .val (.int p2), .val (.int p3), .val (.int p2), .val (.ref (ad5 Z a0)), .val (.ref (ad4 Z a0)), .val (.int (1 : Int32)), .unset]) at_65 rfl rfl ?_
        refine g_aload X36 K (q := 69) at_67 rfl rfl rfl ?_
        refine g_virtual X36 K (q := 72) (W := 0) (a := (ad4 Z a0)) (w8 H) (w9 H) (nf_self K (w11 H)) (w11 H) (w10 H) (w6 H) (w12 H) (by decide) (rm2_19 l H h0 Ol0) e36 ((x4 H).ext Ol0.2) rfl (argsL := []) (rest := []) (lenOf pd_2 rfl) rfl rfl (Nat.le_of_eq rfl) at_69 (by decide) (by decide) (by decide) (by decide) rfl ?_
        rintro T37 v37 L37 X37 ⟨rfl, N37q, e37⟩
        have N37 := Fr.app N36 N37q
        show Go p e below _ T37 (mkF m 72 #[.val (.int p0), .val (.int p1), .val (.int p2), .val (.int p3), .val (.int p2), .val (.ref (ad5 Z a0)), .val (.ref (ad4 Z a0)), .val (.int (1 : Int32)), .unset] [(.ref (ad5 Z a0))])
        refine g_aload X37 K (q := 74) at_72 rfl rfl rfl ?_
        refine g_ac X37 K (q := 77) (same := true) at_74 rfl rfl (decide_eq_true rfl) (by decide) (by decide) ?_
        refine g_iconst X37 K (q := 78) (v := (1 : Int32)) at_77 (by decide) rfl ?_
        refine g_goto X37 K (q := 82) at_78 (by decide) (by decide) ?_
        refine g_istore X37 K (q := 84) (L' := #[.val (.int p0), .val (.int p1), .val (.int p2), .val (.int p3), .val (.int p2), .val (.ref (ad5 Z a0)), .val (.ref (ad4 Z a0)), .val (.int (1 : Int32)), .val (.int (1 : Int32))]) at_82 rfl rfl ?_
        refine g_iload X37 K (q := 86) at_84 rfl rfl ?_
        refine g_ifN X37 K (q := 89) at_86 (by decide) rfl ?_
        refine g_iload X37 K (q := 91) at_89 rfl rfl ?_
        refine g_ifN X37 K (q := 94) at_91 (by decide) rfl ?_
        refine g_iconst X37 K (q := 95) (v := (1 : Int32)) at_94 (by decide) rfl ?_
        refine g_goto X37 K (q := 99) at_95 (by decide) (by decide) ?_
        refine g_nret X37 K (by simp) (z' := (1 : Int32)) (by decide) at_99 (by decide) (by decide) ?_
        exact ⟨rfl, N37⟩
  · refine g_ifN X0 K (q := 6) at_3 (feq hc1).1 rfl ?_
    refine g_iloadN X0 K (q := 7) at_6 rfl rfl ?_
    refine g_iloadN X0 K (q := 8) at_7 rfl rfl ?_
    refine g_iconst X0 K (q := 9) (v := (1 : Int32)) at_8 (by decide) rfl ?_
    refine g_ishr X0 K (q := 10) at_9 rfl rfl ?_
    refine g_iconst X0 K (q := 11) (v := (3 : Int32)) at_10 (by decide) rfl ?_
    refine g_iand X0 K (q := 12) at_11 rfl rfl ?_
    refine g_iadd X0 K (q := 13) at_12 rfl rfl ?_
    refine g_iconst X0 K (q := 14) (v := (1 : Int32)) at_13 (by decide) rfl ?_
    obtain ⟨bb1, hbb1⟩ : ∃ z, (p1 + ((p3 >>> ((1 : Int32) &&& 31)) &&& (3 : Int32))) - (1 : Int32) = z := ⟨_, rfl⟩
    refine g_isub X0 K (q := 15) (z := bb1) at_14 hbb1 rfl ?_
    refine g_goto X0 K (q := 19) at_15 (by decide) (by decide) ?_
    refine g_istore X0 K (q := 21) (L' := #[.val (.int p0), .val (.int p1), .val (.int p2), .val (.int p3), .val (.int bb1), .unset, .unset, .unset, .unset]) at_19 rfl rfl ?_
    refine g_iloadN X0 K (q := 22) at_21 rfl rfl ?_
    refine g_static X0 K (q := 25) (W := 0) (w0 H) (w1 H) (w2 H) (w3 H) (by decide) (rm1_0 l H p0 h0 Ol0) e0 rfl (argsL := [(.int p0)]) (rest := []) (lenOf pd_0 rfl) rfl rfl (Nat.le_of_eq rfl) at_22 (by decide) (by decide) (by decide) (by decide) rfl ?_
    rintro T38 v38 L38 X38 (⟨hc20, rfl, N38q, e38⟩ | ⟨hc21, rfl, N38q, e38⟩ | ⟨hc22, rfl, N38q, e38⟩ | ⟨hc23, rfl, N38q, e38⟩ | ⟨hc24, rfl, N38q, e38⟩ | ⟨hc25, rfl, N38q, e38⟩)
    · have N38 := Fr.app N0 N38q
      show Go p e below _ T38 (mkF m 25 #[.val (.int p0), .val (.int p1), .val (.int p2), .val (.int p3), .val (.int bb1), .unset, .unset, .unset, .unset] [(.ref (ad0 Z a0))])
      refine g_astore X38 K (q := 27) (L' := #[.val (.int p0), .val (.int p1), .val (.int p2), .val (.int p3), .val (.int bb1), .val (.ref (ad0 Z a0)), .unset, .unset, .unset]) at_25 rfl rfl rfl ?_
      refine g_aload X38 K (q := 29) at_27 rfl rfl rfl ?_
      refine g_virtual X38 K (q := 32) (W := 0) (a := (ad0 Z a0)) (w8 H) (w9 H) (nf_self K (w11 H)) (w11 H) (w10 H) (w6 H) (w12 H) (by decide) (rm2_2 l H h0 Ol0) e38 ((x0 H).ext Ol0.2) rfl (argsL := []) (rest := []) (lenOf pd_2 rfl) rfl rfl (Nat.le_of_eq rfl) at_29 (by decide) (by decide) (by decide) (by decide) rfl ?_
      rintro T39 v39 L39 X39 ⟨rfl, N39q, e39⟩
      have N39 := Fr.app N38 N39q
      show Go p e below _ T39 (mkF m 32 #[.val (.int p0), .val (.int p1), .val (.int p2), .val (.int p3), .val (.int bb1), .val (.ref (ad0 Z a0)), .unset, .unset, .unset] [(.ref (ad0 Z a0))])
      refine g_astore X39 K (q := 34) (L' := #[.val (.int p0), .val (.int p1), .val (.int p2), .val (.int p3), .val (.int bb1), .val (.ref (ad0 Z a0)), .val (.ref (ad0 Z a0)), .unset, .unset]) at_32 rfl rfl rfl ?_
      refine g_aload X39 K (q := 36) at_34 rfl rfl rfl ?_
      refine g_nonnullY X39 K (q := 41) at_36 (by decide) (by decide) ?_
      refine g_aload X39 K (q := 43) at_41 rfl rfl rfl ?_
      refine g_iloadN X39 K (q := 44) at_43 rfl rfl ?_
      refine g_iload X39 K (q := 46) at_44 rfl rfl ?_
      refine g_static X39 K (q := 49) (W := 0) (w22 H) (w23 H) (w2 H) (w24 H) (by decide) (rm4_3 l H p1 bb1 h0 Ol0) e39 rfl (argsL := [(.ref (ad0 Z a0)), (.int p1), (.int bb1)]) (rest := []) (lenOf pd_3 rfl) rfl rfl (Nat.le_of_eq rfl) at_46 (by decide) (by decide) (by decide) (by decide) rfl ?_
      rintro T40 v40 L40 X40 (⟨hc26, rfl, N40q, e40⟩ | ⟨hc27, rfl, N40q, e40⟩)
      · have N40 := Fr.app N39 N40q
        show Go p e below _ T40 (mkF m 49 #[.val (.int p0), .val (.int p1), .val (.int p2), .val (.int p3), .val (.int bb1), .val (.ref (ad0 Z a0)), .val (.ref (ad0 Z a0)), .unset, .unset] [(.int (1 : Int32))])
        refine g_aload X40 K (q := 51) at_49 rfl rfl rfl ?_
        refine g_iload X40 K (q := 53) at_51 rfl rfl ?_
        refine g_iloadN X40 K (q := 54) at_53 rfl rfl ?_
        refine g_static X40 K (q := 57) (W := 1) (w22 H) (w23 H) (w2 H) (w24 H) (by decide) (rm4_4 l H bb1 p1 h0 Ol0 (hc26).symm) e40 rfl (argsL := [(.ref (ad0 Z a0)), (.int bb1), (.int p1)]) (rest := [(.int (1 : Int32))]) (lenOf pd_3 rfl) rfl rfl (Nat.le_of_eq rfl) at_54 (by decide) (by decide) (by decide) (by decide) rfl ?_
        rintro T41 v41 L41 X41 ⟨rfl, N41q, e41⟩
        have N41 := Fr.app N40 N41q
        show Go p e below _ T41 (mkF m 57 #[.val (.int p0), .val (.int p1), .val (.int p2), .val (.int p3), .val (.int bb1), .val (.ref (ad0 Z a0)), .val (.ref (ad0 Z a0)), .unset, .unset] [(.int (1 : Int32)), (.int (1 : Int32))])
        refine g_icN X41 K (q := 60) at_57 (by decide) rfl ?_
        refine g_iconst X41 K (q := 61) (v := (1 : Int32)) at_60 (by decide) rfl ?_
        refine g_goto X41 K (q := 65) at_61 (by decide) (by decide) ?_
        refine g_istore X41 K (q := 67) (L' := #[.val (.int p0), .val (.int p1), .val (.int p2), .val (.int p3), .val (.int bb1), .val (.ref (ad0 Z a0)), .val (.ref (ad0 Z a0)), .val (.int (1 : Int32)), .unset]) at_65 rfl rfl ?_
        refine g_aload X41 K (q := 69) at_67 rfl rfl rfl ?_
        refine g_virtual X41 K (q := 72) (W := 0) (a := (ad0 Z a0)) (w8 H) (w9 H) (nf_self K (w11 H)) (w11 H) (w10 H) (w6 H) (w12 H) (by decide) (rm2_2 l H h0 Ol0) e41 ((x0 H).ext Ol0.2) rfl (argsL := []) (rest := []) (lenOf pd_2 rfl) rfl rfl (Nat.le_of_eq rfl) at_69 (by decide) (by decide) (by decide) (by decide) rfl ?_
        rintro T42 v42 L42 X42 ⟨rfl, N42q, e42⟩
        have N42 := Fr.app N41 N42q
        show Go p e below _ T42 (mkF m 72 #[.val (.int p0), .val (.int p1), .val (.int p2), .val (.int p3), .val (.int bb1), .val (.ref (ad0 Z a0)), .val (.ref (ad0 Z a0)), .val (.int (1 : Int32)), .unset] [(.ref (ad0 Z a0))])
        refine g_aload X42 K (q := 74) at_72 rfl rfl rfl ?_
        refine g_ac X42 K (q := 77) (same := true) at_74 rfl rfl (decide_eq_true rfl) (by decide) (by decide) ?_
        refine g_iconst X42 K (q := 78) (v := (1 : Int32)) at_77 (by decide) rfl ?_
        refine g_goto X42 K (q := 82) at_78 (by decide) (by decide) ?_
        refine g_istore X42 K (q := 84) (L' := #[.val (.int p0), .val (.int p1), .val (.int p2), .val (.int p3), .val (.int bb1), .val (.ref (ad0 Z a0)), .val (.ref (ad0 Z a0)), .val (.int (1 : Int32)), .val (.int (1 : Int32))]) at_82 rfl rfl ?_
        refine g_iload X42 K (q := 86) at_84 rfl rfl ?_
        refine g_ifN X42 K (q := 89) at_86 (by decide) rfl ?_
        refine g_iload X42 K (q := 91) at_89 rfl rfl ?_
        refine g_ifN X42 K (q := 94) at_91 (by decide) rfl ?_
        refine g_iconst X42 K (q := 95) (v := (1 : Int32)) at_94 (by decide) rfl ?_
        refine g_goto X42 K (q := 99) at_95 (by decide) (by decide) ?_
        refine g_nret X42 K (by simp) (z' := (1 : Int32)) (by decide) at_99 (by decide) (by decide) ?_
        exact ⟨rfl, N42⟩
      · have N40 := Fr.app N39 N40q
        show Go p e below _ T40 (mkF m 49 #[.val (.int p0), .val (.int p1), .val (.int p2), .val (.int p3), .val (.int bb1), .val (.ref (ad0 Z a0)), .val (.ref (ad0 Z a0)), .unset, .unset] [(.int (0 : Int32))])
        refine g_aload X40 K (q := 51) at_49 rfl rfl rfl ?_
        refine g_iload X40 K (q := 53) at_51 rfl rfl ?_
        refine g_iloadN X40 K (q := 54) at_53 rfl rfl ?_
        refine g_static X40 K (q := 57) (W := 1) (w22 H) (w23 H) (w2 H) (w24 H) (by decide) (rm4_5 l H bb1 p1 h0 Ol0 (fun z => hc27 z.symm)) e40 rfl (argsL := [(.ref (ad0 Z a0)), (.int bb1), (.int p1)]) (rest := [(.int (0 : Int32))]) (lenOf pd_3 rfl) rfl rfl (Nat.le_of_eq rfl) at_54 (by decide) (by decide) (by decide) (by decide) rfl ?_
        rintro T43 v43 L43 X43 ⟨rfl, N43q, e43⟩
        have N43 := Fr.app N40 N43q
        show Go p e below _ T43 (mkF m 57 #[.val (.int p0), .val (.int p1), .val (.int p2), .val (.int p3), .val (.int bb1), .val (.ref (ad0 Z a0)), .val (.ref (ad0 Z a0)), .unset, .unset] [(.int (0 : Int32)), (.int (0 : Int32))])
        refine g_icN X43 K (q := 60) at_57 (by decide) rfl ?_
        refine g_iconst X43 K (q := 61) (v := (1 : Int32)) at_60 (by decide) rfl ?_
        refine g_goto X43 K (q := 65) at_61 (by decide) (by decide) ?_
        refine g_istore X43 K (q := 67) (L' := #[.val (.int p0), .val (.int p1), .val (.int p2), .val (.int p3), .val (.int bb1), .val (.ref (ad0 Z a0)), .val (.ref (ad0 Z a0)), .val (.int (1 : Int32)), .unset]) at_65 rfl rfl ?_
        refine g_aload X43 K (q := 69) at_67 rfl rfl rfl ?_
        refine g_virtual X43 K (q := 72) (W := 0) (a := (ad0 Z a0)) (w8 H) (w9 H) (nf_self K (w11 H)) (w11 H) (w10 H) (w6 H) (w12 H) (by decide) (rm2_2 l H h0 Ol0) e43 ((x0 H).ext Ol0.2) rfl (argsL := []) (rest := []) (lenOf pd_2 rfl) rfl rfl (Nat.le_of_eq rfl) at_69 (by decide) (by decide) (by decide) (by decide) rfl ?_
        rintro T44 v44 L44 X44 ⟨rfl, N44q, e44⟩
        have N44 := Fr.app N43 N44q
        show Go p e below _ T44 (mkF m 72 #[.val (.int p0), .val (.int p1), .val (.int p2), .val (.int p3), .val (.int bb1), .val (.ref (ad0 Z a0)), .val (.ref (ad0 Z a0)), .val (.int (1 : Int32)), .unset] [(.ref (ad0 Z a0))])
        refine g_aload X44 K (q := 74) at_72 rfl rfl rfl ?_
        refine g_ac X44 K (q := 77) (same := true) at_74 rfl rfl (decide_eq_true rfl) (by decide) (by decide) ?_
        refine g_iconst X44 K (q := 78) (v := (1 : Int32)) at_77 (by decide) rfl ?_
        refine g_goto X44 K (q := 82) at_78 (by decide) (by decide) ?_
        refine g_istore X44 K (q := 84) (L' := #[.val (.int p0), .val (.int p1), .val (.int p2), .val (.int p3), .val (.int bb1), .val (.ref (ad0 Z a0)), .val (.ref (ad0 Z a0)), .val (.int (1 : Int32)), .val (.int (1 : Int32))]) at_82 rfl rfl ?_
        refine g_iload X44 K (q := 86) at_84 rfl rfl ?_
        refine g_ifN X44 K (q := 89) at_86 (by decide) rfl ?_
        refine g_iload X44 K (q := 91) at_89 rfl rfl ?_
        refine g_ifN X44 K (q := 94) at_91 (by decide) rfl ?_
        refine g_iconst X44 K (q := 95) (v := (1 : Int32)) at_94 (by decide) rfl ?_
        refine g_goto X44 K (q := 99) at_95 (by decide) (by decide) ?_
        refine g_nret X44 K (by simp) (z' := (1 : Int32)) (by decide) at_99 (by decide) (by decide) ?_
        exact ⟨rfl, N44⟩
    · have N38 := Fr.app N0 N38q
      show Go p e below _ T38 (mkF m 25 #[.val (.int p0), .val (.int p1), .val (.int p2), .val (.int p3), .val (.int bb1), .unset, .unset, .unset, .unset] [(.ref (ad1 Z a0))])
      refine g_astore X38 K (q := 27) (L' := #[.val (.int p0), .val (.int p1), .val (.int p2), .val (.int p3), .val (.int bb1), .val (.ref (ad1 Z a0)), .unset, .unset, .unset]) at_25 rfl rfl rfl ?_
      refine g_aload X38 K (q := 29) at_27 rfl rfl rfl ?_
      refine g_virtual X38 K (q := 32) (W := 0) (a := (ad1 Z a0)) (w8 H) (w9 H) (nf_self K (w11 H)) (w11 H) (w10 H) (w6 H) (w12 H) (by decide) (rm2_7 l H h0 Ol0) e38 ((x1 H).ext Ol0.2) rfl (argsL := []) (rest := []) (lenOf pd_2 rfl) rfl rfl (Nat.le_of_eq rfl) at_29 (by decide) (by decide) (by decide) (by decide) rfl ?_
      rintro T45 v45 L45 X45 ⟨rfl, N45q, e45⟩
      have N45 := Fr.app N38 N45q
      show Go p e below _ T45 (mkF m 32 #[.val (.int p0), .val (.int p1), .val (.int p2), .val (.int p3), .val (.int bb1), .val (.ref (ad1 Z a0)), .unset, .unset, .unset] [(.ref (ad1 Z a0))])
      refine g_astore X45 K (q := 34) (L' := #[.val (.int p0), .val (.int p1), .val (.int p2), .val (.int p3), .val (.int bb1), .val (.ref (ad1 Z a0)), .val (.ref (ad1 Z a0)), .unset, .unset]) at_32 rfl rfl rfl ?_
      refine g_aload X45 K (q := 36) at_34 rfl rfl rfl ?_
      refine g_nonnullY X45 K (q := 41) at_36 (by decide) (by decide) ?_
      refine g_aload X45 K (q := 43) at_41 rfl rfl rfl ?_
      refine g_iloadN X45 K (q := 44) at_43 rfl rfl ?_
      refine g_iload X45 K (q := 46) at_44 rfl rfl ?_
      refine g_static X45 K (q := 49) (W := 0) (w22 H) (w23 H) (w2 H) (w24 H) (by decide) (rm4_8 l H p1 bb1 h0 Ol0) e45 rfl (argsL := [(.ref (ad1 Z a0)), (.int p1), (.int bb1)]) (rest := []) (lenOf pd_3 rfl) rfl rfl (Nat.le_of_eq rfl) at_46 (by decide) (by decide) (by decide) (by decide) rfl ?_
      rintro T46 v46 L46 X46 (⟨hc28, rfl, N46q, e46⟩ | ⟨hc29, rfl, N46q, e46⟩)
      · have N46 := Fr.app N45 N46q
        show Go p e below _ T46 (mkF m 49 #[.val (.int p0), .val (.int p1), .val (.int p2), .val (.int p3), .val (.int bb1), .val (.ref (ad1 Z a0)), .val (.ref (ad1 Z a0)), .unset, .unset] [(.int (0 : Int32))])
        refine g_aload X46 K (q := 51) at_49 rfl rfl rfl ?_
        refine g_iload X46 K (q := 53) at_51 rfl rfl ?_
        refine g_iloadN X46 K (q := 54) at_53 rfl rfl ?_
        refine g_static X46 K (q := 57) (W := 1) (w22 H) (w23 H) (w2 H) (w24 H) (by decide) (rm4_9 l H bb1 p1 h0 Ol0 (hc28).symm) e46 rfl (argsL := [(.ref (ad1 Z a0)), (.int bb1), (.int p1)]) (rest := [(.int (0 : Int32))]) (lenOf pd_3 rfl) rfl rfl (Nat.le_of_eq rfl) at_54 (by decide) (by decide) (by decide) (by decide) rfl ?_
        rintro T47 v47 L47 X47 ⟨rfl, N47q, e47⟩
        have N47 := Fr.app N46 N47q
        show Go p e below _ T47 (mkF m 57 #[.val (.int p0), .val (.int p1), .val (.int p2), .val (.int p3), .val (.int bb1), .val (.ref (ad1 Z a0)), .val (.ref (ad1 Z a0)), .unset, .unset] [(.int (0 : Int32)), (.int (0 : Int32))])
        refine g_icN X47 K (q := 60) at_57 (by decide) rfl ?_
        refine g_iconst X47 K (q := 61) (v := (1 : Int32)) at_60 (by decide) rfl ?_
        refine g_goto X47 K (q := 65) at_61 (by decide) (by decide) ?_
        refine g_istore X47 K (q := 67) (L' := #[.val (.int p0), .val (.int p1), .val (.int p2), .val (.int p3), .val (.int bb1), .val (.ref (ad1 Z a0)), .val (.ref (ad1 Z a0)), .val (.int (1 : Int32)), .unset]) at_65 rfl rfl ?_
        refine g_aload X47 K (q := 69) at_67 rfl rfl rfl ?_
        refine g_virtual X47 K (q := 72) (W := 0) (a := (ad1 Z a0)) (w8 H) (w9 H) (nf_self K (w11 H)) (w11 H) (w10 H) (w6 H) (w12 H) (by decide) (rm2_7 l H h0 Ol0) e47 ((x1 H).ext Ol0.2) rfl (argsL := []) (rest := []) (lenOf pd_2 rfl) rfl rfl (Nat.le_of_eq rfl) at_69 (by decide) (by decide) (by decide) (by decide) rfl ?_
        rintro T48 v48 L48 X48 ⟨rfl, N48q, e48⟩
        have N48 := Fr.app N47 N48q
        show Go p e below _ T48 (mkF m 72 #[.val (.int p0), .val (.int p1), .val (.int p2), .val (.int p3), .val (.int bb1), .val (.ref (ad1 Z a0)), .val (.ref (ad1 Z a0)), .val (.int (1 : Int32)), .unset] [(.ref (ad1 Z a0))])
        refine g_aload X48 K (q := 74) at_72 rfl rfl rfl ?_
        refine g_ac X48 K (q := 77) (same := true) at_74 rfl rfl (decide_eq_true rfl) (by decide) (by decide) ?_
        refine g_iconst X48 K (q := 78) (v := (1 : Int32)) at_77 (by decide) rfl ?_
        refine g_goto X48 K (q := 82) at_78 (by decide) (by decide) ?_
        refine g_istore X48 K (q := 84) (L' := #[.val (.int p0), .val (.int p1), .val (.int p2), .val (.int p3), .val (.int bb1), .val (.ref (ad1 Z a0)), .val (.ref (ad1 Z a0)), .val (.int (1 : Int32)), .val (.int (1 : Int32))]) at_82 rfl rfl ?_
        refine g_iload X48 K (q := 86) at_84 rfl rfl ?_
        refine g_ifN X48 K (q := 89) at_86 (by decide) rfl ?_
        refine g_iload X48 K (q := 91) at_89 rfl rfl ?_
        refine g_ifN X48 K (q := 94) at_91 (by decide) rfl ?_
        refine g_iconst X48 K (q := 95) (v := (1 : Int32)) at_94 (by decide) rfl ?_
        refine g_goto X48 K (q := 99) at_95 (by decide) (by decide) ?_
        refine g_nret X48 K (by simp) (z' := (1 : Int32)) (by decide) at_99 (by decide) (by decide) ?_
        exact ⟨rfl, N48⟩
      · have N46 := Fr.app N45 N46q
        show Go p e below _ T46 (mkF m 49 #[.val (.int p0), .val (.int p1), .val (.int p2), .val (.int p3), .val (.int bb1), .val (.ref (ad1 Z a0)), .val (.ref (ad1 Z a0)), .unset, .unset] [(.int (1 : Int32))])
        refine g_aload X46 K (q := 51) at_49 rfl rfl rfl ?_
        refine g_iload X46 K (q := 53) at_51 rfl rfl ?_
        refine g_iloadN X46 K (q := 54) at_53 rfl rfl ?_
        refine g_static X46 K (q := 57) (W := 1) (w22 H) (w23 H) (w2 H) (w24 H) (by decide) (rm4_10 l H bb1 p1 h0 Ol0 (fun z => hc29 z.symm)) e46 rfl (argsL := [(.ref (ad1 Z a0)), (.int bb1), (.int p1)]) (rest := [(.int (1 : Int32))]) (lenOf pd_3 rfl) rfl rfl (Nat.le_of_eq rfl) at_54 (by decide) (by decide) (by decide) (by decide) rfl ?_
        rintro T49 v49 L49 X49 ⟨rfl, N49q, e49⟩
        have N49 := Fr.app N46 N49q
        show Go p e below _ T49 (mkF m 57 #[.val (.int p0), .val (.int p1), .val (.int p2), .val (.int p3), .val (.int bb1), .val (.ref (ad1 Z a0)), .val (.ref (ad1 Z a0)), .unset, .unset] [(.int (1 : Int32)), (.int (1 : Int32))])
        refine g_icN X49 K (q := 60) at_57 (by decide) rfl ?_
        refine g_iconst X49 K (q := 61) (v := (1 : Int32)) at_60 (by decide) rfl ?_
        refine g_goto X49 K (q := 65) at_61 (by decide) (by decide) ?_
        refine g_istore X49 K (q := 67) (L' := #[.val (.int p0), .val (.int p1), .val (.int p2), .val (.int p3), .val (.int bb1), .val (.ref (ad1 Z a0)), .val (.ref (ad1 Z a0)), .val (.int (1 : Int32)), .unset]) at_65 rfl rfl ?_
        refine g_aload X49 K (q := 69) at_67 rfl rfl rfl ?_
        refine g_virtual X49 K (q := 72) (W := 0) (a := (ad1 Z a0)) (w8 H) (w9 H) (nf_self K (w11 H)) (w11 H) (w10 H) (w6 H) (w12 H) (by decide) (rm2_7 l H h0 Ol0) e49 ((x1 H).ext Ol0.2) rfl (argsL := []) (rest := []) (lenOf pd_2 rfl) rfl rfl (Nat.le_of_eq rfl) at_69 (by decide) (by decide) (by decide) (by decide) rfl ?_
        rintro T50 v50 L50 X50 ⟨rfl, N50q, e50⟩
        have N50 := Fr.app N49 N50q
        show Go p e below _ T50 (mkF m 72 #[.val (.int p0), .val (.int p1), .val (.int p2), .val (.int p3), .val (.int bb1), .val (.ref (ad1 Z a0)), .val (.ref (ad1 Z a0)), .val (.int (1 : Int32)), .unset] [(.ref (ad1 Z a0))])
        refine g_aload X50 K (q := 74) at_72 rfl rfl rfl ?_
        refine g_ac X50 K (q := 77) (same := true) at_74 rfl rfl (decide_eq_true rfl) (by decide) (by decide) ?_
        refine g_iconst X50 K (q := 78) (v := (1 : Int32)) at_77 (by decide) rfl ?_
        refine g_goto X50 K (q := 82) at_78 (by decide) (by decide) ?_
        refine g_istore X50 K (q := 84) (L' := #[.val (.int p0), .val (.int p1), .val (.int p2), .val (.int p3), .val (.int bb1), .val (.ref (ad1 Z a0)), .val (.ref (ad1 Z a0)), .val (.int (1 : Int32)), .val (.int (1 : Int32))]) at_82 rfl rfl ?_
        refine g_iload X50 K (q := 86) at_84 rfl rfl ?_
        refine g_ifN X50 K (q := 89) at_86 (by decide) rfl ?_
        refine g_iload X50 K (q := 91) at_89 rfl rfl ?_
        refine g_ifN X50 K (q := 94) at_91 (by decide) rfl ?_
        refine g_iconst X50 K (q := 95) (v := (1 : Int32)) at_94 (by decide) rfl ?_
        refine g_goto X50 K (q := 99) at_95 (by decide) (by decide) ?_
        refine g_nret X50 K (by simp) (z' := (1 : Int32)) (by decide) at_99 (by decide) (by decide) ?_
        exact ⟨rfl, N50⟩
    · have N38 := Fr.app N0 N38q
      show Go p e below _ T38 (mkF m 25 #[.val (.int p0), .val (.int p1), .val (.int p2), .val (.int p3), .val (.int bb1), .unset, .unset, .unset, .unset] [(.ref (ad3 Z a0))])
      refine g_astore X38 K (q := 27) (L' := #[.val (.int p0), .val (.int p1), .val (.int p2), .val (.int p3), .val (.int bb1), .val (.ref (ad3 Z a0)), .unset, .unset, .unset]) at_25 rfl rfl rfl ?_
      refine g_aload X38 K (q := 29) at_27 rfl rfl rfl ?_
      refine g_virtual X38 K (q := 32) (W := 0) (a := (ad3 Z a0)) (w8 H) (w9 H) (nf_self K (w11 H)) (w11 H) (w10 H) (w6 H) (w12 H) (by decide) (rm2_12 l H h0 Ol0) e38 ((x3 H).ext Ol0.2) rfl (argsL := []) (rest := []) (lenOf pd_2 rfl) rfl rfl (Nat.le_of_eq rfl) at_29 (by decide) (by decide) (by decide) (by decide) rfl ?_
      rintro T51 v51 L51 X51 ⟨rfl, N51q, e51⟩
      have N51 := Fr.app N38 N51q
      show Go p e below _ T51 (mkF m 32 #[.val (.int p0), .val (.int p1), .val (.int p2), .val (.int p3), .val (.int bb1), .val (.ref (ad3 Z a0)), .unset, .unset, .unset] [(.ref (ad2 Z a0))])
      refine g_astore X51 K (q := 34) (L' := #[.val (.int p0), .val (.int p1), .val (.int p2), .val (.int p3), .val (.int bb1), .val (.ref (ad3 Z a0)), .val (.ref (ad2 Z a0)), .unset, .unset]) at_32 rfl rfl rfl ?_
      refine g_aload X51 K (q := 36) at_34 rfl rfl rfl ?_
      refine g_nonnullY X51 K (q := 41) at_36 (by decide) (by decide) ?_
      refine g_aload X51 K (q := 43) at_41 rfl rfl rfl ?_
      refine g_iloadN X51 K (q := 44) at_43 rfl rfl ?_
      refine g_iload X51 K (q := 46) at_44 rfl rfl ?_
      refine g_static X51 K (q := 49) (W := 0) (w22 H) (w23 H) (w2 H) (w24 H) (by decide) (rm4_13 l H p1 bb1 h0 Ol0) e51 rfl (argsL := [(.ref (ad3 Z a0)), (.int p1), (.int bb1)]) (rest := []) (lenOf pd_3 rfl) rfl rfl (Nat.le_of_eq rfl) at_46 (by decide) (by decide) (by decide) (by decide) rfl ?_
      rintro T52 v52 L52 X52 (⟨hc30, rfl, N52q, e52⟩ | ⟨hc31, rfl, N52q, e52⟩)
      · have N52 := Fr.app N51 N52q
        show Go p e below _ T52 (mkF m 49 #[.val (.int p0), .val (.int p1), .val (.int p2), .val (.int p3), .val (.int bb1), .val (.ref (ad3 Z a0)), .val (.ref (ad2 Z a0)), .unset, .unset] [(.int (1 : Int32))])
        refine g_aload X52 K (q := 51) at_49 rfl rfl rfl ?_
        refine g_iload X52 K (q := 53) at_51 rfl rfl ?_
        refine g_iloadN X52 K (q := 54) at_53 rfl rfl ?_
        refine g_static X52 K (q := 57) (W := 1) (w22 H) (w23 H) (w2 H) (w24 H) (by decide) (rm4_14 l H bb1 p1 h0 Ol0 hc30) e52 rfl (argsL := [(.ref (ad2 Z a0)), (.int bb1), (.int p1)]) (rest := [(.int (1 : Int32))]) (lenOf pd_3 rfl) rfl rfl (Nat.le_of_eq rfl) at_54 (by decide) (by decide) (by decide) (by decide) rfl ?_
        rintro T53 v53 L53 X53 ⟨rfl, N53q, e53⟩
        have N53 := Fr.app N52 N53q
        show Go p e below _ T53 (mkF m 57 #[.val (.int p0), .val (.int p1), .val (.int p2), .val (.int p3), .val (.int bb1), .val (.ref (ad3 Z a0)), .val (.ref (ad2 Z a0)), .unset, .unset] [(.int (1 : Int32)), (.int (1 : Int32))])
        refine g_icN X53 K (q := 60) at_57 (by decide) rfl ?_
        refine g_iconst X53 K (q := 61) (v := (1 : Int32)) at_60 (by decide) rfl ?_
        refine g_goto X53 K (q := 65) at_61 (by decide) (by decide) ?_
        refine g_istore X53 K (q := 67) (L' := #[.val (.int p0), .val (.int p1), .val (.int p2), .val (.int p3), .val (.int bb1), .val (.ref (ad3 Z a0)), .val (.ref (ad2 Z a0)), .val (.int (1 : Int32)), .unset]) at_65 rfl rfl ?_
        refine g_aload X53 K (q := 69) at_67 rfl rfl rfl ?_
        refine g_virtual X53 K (q := 72) (W := 0) (a := (ad2 Z a0)) (w8 H) (w9 H) (nf_self K (w11 H)) (w11 H) (w10 H) (w6 H) (w12 H) (by decide) (rm2_16 l H h0 Ol0) e53 ((x2 H).ext Ol0.2) rfl (argsL := []) (rest := []) (lenOf pd_2 rfl) rfl rfl (Nat.le_of_eq rfl) at_69 (by decide) (by decide) (by decide) (by decide) rfl ?_
        rintro T54 v54 L54 X54 ⟨rfl, N54q, e54⟩
        have N54 := Fr.app N53 N54q
        show Go p e below _ T54 (mkF m 72 #[.val (.int p0), .val (.int p1), .val (.int p2), .val (.int p3), .val (.int bb1), .val (.ref (ad3 Z a0)), .val (.ref (ad2 Z a0)), .val (.int (1 : Int32)), .unset] [(.ref (ad3 Z a0))])
        refine g_aload X54 K (q := 74) at_72 rfl rfl rfl ?_
        refine g_ac X54 K (q := 77) (same := true) at_74 rfl rfl (decide_eq_true rfl) (by decide) (by decide) ?_
        refine g_iconst X54 K (q := 78) (v := (1 : Int32)) at_77 (by decide) rfl ?_
        refine g_goto X54 K (q := 82) at_78 (by decide) (by decide) ?_
        refine g_istore X54 K (q := 84) (L' := #[.val (.int p0), .val (.int p1), .val (.int p2), .val (.int p3), .val (.int bb1), .val (.ref (ad3 Z a0)), .val (.ref (ad2 Z a0)), .val (.int (1 : Int32)), .val (.int (1 : Int32))]) at_82 rfl rfl ?_
        refine g_iload X54 K (q := 86) at_84 rfl rfl ?_
        refine g_ifN X54 K (q := 89) at_86 (by decide) rfl ?_
        refine g_iload X54 K (q := 91) at_89 rfl rfl ?_
        refine g_ifN X54 K (q := 94) at_91 (by decide) rfl ?_
        refine g_iconst X54 K (q := 95) (v := (1 : Int32)) at_94 (by decide) rfl ?_
        refine g_goto X54 K (q := 99) at_95 (by decide) (by decide) ?_
        refine g_nret X54 K (by simp) (z' := (1 : Int32)) (by decide) at_99 (by decide) (by decide) ?_
        exact ⟨rfl, N54⟩
      · have N52 := Fr.app N51 N52q
        show Go p e below _ T52 (mkF m 49 #[.val (.int p0), .val (.int p1), .val (.int p2), .val (.int p3), .val (.int bb1), .val (.ref (ad3 Z a0)), .val (.ref (ad2 Z a0)), .unset, .unset] [(.int (0 : Int32))])
        refine g_aload X52 K (q := 51) at_49 rfl rfl rfl ?_
        refine g_iload X52 K (q := 53) at_51 rfl rfl ?_
        refine g_iloadN X52 K (q := 54) at_53 rfl rfl ?_
        refine g_static X52 K (q := 57) (W := 1) (w22 H) (w23 H) (w2 H) (w24 H) (by decide) (rm4_17 l H bb1 p1 h0 Ol0 hc31) e52 rfl (argsL := [(.ref (ad2 Z a0)), (.int bb1), (.int p1)]) (rest := [(.int (0 : Int32))]) (lenOf pd_3 rfl) rfl rfl (Nat.le_of_eq rfl) at_54 (by decide) (by decide) (by decide) (by decide) rfl ?_
        rintro T55 v55 L55 X55 ⟨rfl, N55q, e55⟩
        have N55 := Fr.app N52 N55q
        show Go p e below _ T55 (mkF m 57 #[.val (.int p0), .val (.int p1), .val (.int p2), .val (.int p3), .val (.int bb1), .val (.ref (ad3 Z a0)), .val (.ref (ad2 Z a0)), .unset, .unset] [(.int (0 : Int32)), (.int (0 : Int32))])
        refine g_icN X55 K (q := 60) at_57 (by decide) rfl ?_
        refine g_iconst X55 K (q := 61) (v := (1 : Int32)) at_60 (by decide) rfl ?_
        refine g_goto X55 K (q := 65) at_61 (by decide) (by decide) ?_
        refine g_istore X55 K (q := 67) (L' := #[.val (.int p0), .val (.int p1), .val (.int p2), .val (.int p3), .val (.int bb1), .val (.ref (ad3 Z a0)), .val (.ref (ad2 Z a0)), .val (.int (1 : Int32)), .unset]) at_65 rfl rfl ?_
        refine g_aload X55 K (q := 69) at_67 rfl rfl rfl ?_
        refine g_virtual X55 K (q := 72) (W := 0) (a := (ad2 Z a0)) (w8 H) (w9 H) (nf_self K (w11 H)) (w11 H) (w10 H) (w6 H) (w12 H) (by decide) (rm2_16 l H h0 Ol0) e55 ((x2 H).ext Ol0.2) rfl (argsL := []) (rest := []) (lenOf pd_2 rfl) rfl rfl (Nat.le_of_eq rfl) at_69 (by decide) (by decide) (by decide) (by decide) rfl ?_
        rintro T56 v56 L56 X56 ⟨rfl, N56q, e56⟩
        have N56 := Fr.app N55 N56q
        show Go p e below _ T56 (mkF m 72 #[.val (.int p0), .val (.int p1), .val (.int p2), .val (.int p3), .val (.int bb1), .val (.ref (ad3 Z a0)), .val (.ref (ad2 Z a0)), .val (.int (1 : Int32)), .unset] [(.ref (ad3 Z a0))])
        refine g_aload X56 K (q := 74) at_72 rfl rfl rfl ?_
        refine g_ac X56 K (q := 77) (same := true) at_74 rfl rfl (decide_eq_true rfl) (by decide) (by decide) ?_
        refine g_iconst X56 K (q := 78) (v := (1 : Int32)) at_77 (by decide) rfl ?_
        refine g_goto X56 K (q := 82) at_78 (by decide) (by decide) ?_
        refine g_istore X56 K (q := 84) (L' := #[.val (.int p0), .val (.int p1), .val (.int p2), .val (.int p3), .val (.int bb1), .val (.ref (ad3 Z a0)), .val (.ref (ad2 Z a0)), .val (.int (1 : Int32)), .val (.int (1 : Int32))]) at_82 rfl rfl ?_
        refine g_iload X56 K (q := 86) at_84 rfl rfl ?_
        refine g_ifN X56 K (q := 89) at_86 (by decide) rfl ?_
        refine g_iload X56 K (q := 91) at_89 rfl rfl ?_
        refine g_ifN X56 K (q := 94) at_91 (by decide) rfl ?_
        refine g_iconst X56 K (q := 95) (v := (1 : Int32)) at_94 (by decide) rfl ?_
        refine g_goto X56 K (q := 99) at_95 (by decide) (by decide) ?_
        refine g_nret X56 K (by simp) (z' := (1 : Int32)) (by decide) at_99 (by decide) (by decide) ?_
        exact ⟨rfl, N56⟩
    · have N38 := Fr.app N0 N38q
      show Go p e below _ T38 (mkF m 25 #[.val (.int p0), .val (.int p1), .val (.int p2), .val (.int p3), .val (.int bb1), .unset, .unset, .unset, .unset] [(.ref (ad4 Z a0))])
      refine g_astore X38 K (q := 27) (L' := #[.val (.int p0), .val (.int p1), .val (.int p2), .val (.int p3), .val (.int bb1), .val (.ref (ad4 Z a0)), .unset, .unset, .unset]) at_25 rfl rfl rfl ?_
      refine g_aload X38 K (q := 29) at_27 rfl rfl rfl ?_
      refine g_virtual X38 K (q := 32) (W := 0) (a := (ad4 Z a0)) (w8 H) (w9 H) (nf_self K (w11 H)) (w11 H) (w10 H) (w6 H) (w12 H) (by decide) (rm2_19 l H h0 Ol0) e38 ((x4 H).ext Ol0.2) rfl (argsL := []) (rest := []) (lenOf pd_2 rfl) rfl rfl (Nat.le_of_eq rfl) at_29 (by decide) (by decide) (by decide) (by decide) rfl ?_
      rintro T57 v57 L57 X57 ⟨rfl, N57q, e57⟩
      have N57 := Fr.app N38 N57q
      show Go p e below _ T57 (mkF m 32 #[.val (.int p0), .val (.int p1), .val (.int p2), .val (.int p3), .val (.int bb1), .val (.ref (ad4 Z a0)), .unset, .unset, .unset] [(.ref (ad5 Z a0))])
      refine g_astore X57 K (q := 34) (L' := #[.val (.int p0), .val (.int p1), .val (.int p2), .val (.int p3), .val (.int bb1), .val (.ref (ad4 Z a0)), .val (.ref (ad5 Z a0)), .unset, .unset]) at_32 rfl rfl rfl ?_
      refine g_aload X57 K (q := 36) at_34 rfl rfl rfl ?_
      refine g_nonnullY X57 K (q := 41) at_36 (by decide) (by decide) ?_
      refine g_aload X57 K (q := 43) at_41 rfl rfl rfl ?_
      refine g_iloadN X57 K (q := 44) at_43 rfl rfl ?_
      refine g_iload X57 K (q := 46) at_44 rfl rfl ?_
      refine g_static X57 K (q := 49) (W := 0) (w22 H) (w23 H) (w2 H) (w24 H) (by decide) (rm4_20 l H p1 bb1 h0 Ol0) e57 rfl (argsL := [(.ref (ad4 Z a0)), (.int p1), (.int bb1)]) (rest := []) (lenOf pd_3 rfl) rfl rfl (Nat.le_of_eq rfl) at_46 (by decide) (by decide) (by decide) (by decide) rfl ?_
      rintro T58 v58 L58 X58 (⟨hc32, rfl, N58q, e58⟩ | ⟨hc33, rfl, N58q, e58⟩)
      · have N58 := Fr.app N57 N58q
        show Go p e below _ T58 (mkF m 49 #[.val (.int p0), .val (.int p1), .val (.int p2), .val (.int p3), .val (.int bb1), .val (.ref (ad4 Z a0)), .val (.ref (ad5 Z a0)), .unset, .unset] [(.int (0 : Int32))])
        refine g_aload X58 K (q := 51) at_49 rfl rfl rfl ?_
        refine g_iload X58 K (q := 53) at_51 rfl rfl ?_
        refine g_iloadN X58 K (q := 54) at_53 rfl rfl ?_
        refine g_static X58 K (q := 57) (W := 1) (w22 H) (w23 H) (w2 H) (w24 H) (by decide) (rm4_21 l H bb1 p1 h0 Ol0 hc32) e58 rfl (argsL := [(.ref (ad5 Z a0)), (.int bb1), (.int p1)]) (rest := [(.int (0 : Int32))]) (lenOf pd_3 rfl) rfl rfl (Nat.le_of_eq rfl) at_54 (by decide) (by decide) (by decide) (by decide) rfl ?_
        rintro T59 v59 L59 X59 ⟨rfl, N59q, e59⟩
        have N59 := Fr.app N58 N59q
        show Go p e below _ T59 (mkF m 57 #[.val (.int p0), .val (.int p1), .val (.int p2), .val (.int p3), .val (.int bb1), .val (.ref (ad4 Z a0)), .val (.ref (ad5 Z a0)), .unset, .unset] [(.int (0 : Int32)), (.int (0 : Int32))])
        refine g_icN X59 K (q := 60) at_57 (by decide) rfl ?_
        refine g_iconst X59 K (q := 61) (v := (1 : Int32)) at_60 (by decide) rfl ?_
        refine g_goto X59 K (q := 65) at_61 (by decide) (by decide) ?_
        refine g_istore X59 K (q := 67) (L' := #[.val (.int p0), .val (.int p1), .val (.int p2), .val (.int p3), .val (.int bb1), .val (.ref (ad4 Z a0)), .val (.ref (ad5 Z a0)), .val (.int (1 : Int32)), .unset]) at_65 rfl rfl ?_
        refine g_aload X59 K (q := 69) at_67 rfl rfl rfl ?_
        refine g_virtual X59 K (q := 72) (W := 0) (a := (ad5 Z a0)) (w8 H) (w9 H) (nf_self K (w11 H)) (w11 H) (w10 H) (w6 H) (w12 H) (by decide) (rm2_23 l H h0 Ol0) e59 ((x5 H).ext Ol0.2) rfl (argsL := []) (rest := []) (lenOf pd_2 rfl) rfl rfl (Nat.le_of_eq rfl) at_69 (by decide) (by decide) (by decide) (by decide) rfl ?_
        rintro T60 v60 L60 X60 ⟨rfl, N60q, e60⟩
        have N60 := Fr.app N59 N60q
        show Go p e below _ T60 (mkF m 72 #[.val (.int p0), .val (.int p1), .val (.int p2), .val (.int p3), .val (.int bb1), .val (.ref (ad4 Z a0)), .val (.ref (ad5 Z a0)), .val (.int (1 : Int32)), .unset] [(.ref (ad4 Z a0))])
        refine g_aload X60 K (q := 74) at_72 rfl rfl rfl ?_
        refine g_ac X60 K (q := 77) (same := true) at_74 rfl rfl (decide_eq_true rfl) (by decide) (by decide) ?_
        refine g_iconst X60 K (q := 78) (v := (1 : Int32)) at_77 (by decide) rfl ?_
        refine g_goto X60 K (q := 82) at_78 (by decide) (by decide) ?_
        refine g_istore X60 K (q := 84) (L' := #[.val (.int p0), .val (.int p1), .val (.int p2), .val (.int p3), .val (.int bb1), .val (.ref (ad4 Z a0)), .val (.ref (ad5 Z a0)), .val (.int (1 : Int32)), .val (.int (1 : Int32))]) at_82 rfl rfl ?_
        refine g_iload X60 K (q := 86) at_84 rfl rfl ?_
        refine g_ifN X60 K (q := 89) at_86 (by decide) rfl ?_
        refine g_iload X60 K (q := 91) at_89 rfl rfl ?_
        refine g_ifN X60 K (q := 94) at_91 (by decide) rfl ?_
        refine g_iconst X60 K (q := 95) (v := (1 : Int32)) at_94 (by decide) rfl ?_
        refine g_goto X60 K (q := 99) at_95 (by decide) (by decide) ?_
        refine g_nret X60 K (by simp) (z' := (1 : Int32)) (by decide) at_99 (by decide) (by decide) ?_
        exact ⟨rfl, N60⟩
      · have N58 := Fr.app N57 N58q
        show Go p e below _ T58 (mkF m 49 #[.val (.int p0), .val (.int p1), .val (.int p2), .val (.int p3), .val (.int bb1), .val (.ref (ad4 Z a0)), .val (.ref (ad5 Z a0)), .unset, .unset] [(.int (1 : Int32))])
        refine g_aload X58 K (q := 51) at_49 rfl rfl rfl ?_
        refine g_iload X58 K (q := 53) at_51 rfl rfl ?_
        refine g_iloadN X58 K (q := 54) at_53 rfl rfl ?_
        refine g_static X58 K (q := 57) (W := 1) (w22 H) (w23 H) (w2 H) (w24 H) (by decide) (rm4_24 l H bb1 p1 h0 Ol0 hc33) e58 rfl (argsL := [(.ref (ad5 Z a0)), (.int bb1), (.int p1)]) (rest := [(.int (1 : Int32))]) (lenOf pd_3 rfl) rfl rfl (Nat.le_of_eq rfl) at_54 (by decide) (by decide) (by decide) (by decide) rfl ?_
        rintro T61 v61 L61 X61 ⟨rfl, N61q, e61⟩
        have N61 := Fr.app N58 N61q
        show Go p e below _ T61 (mkF m 57 #[.val (.int p0), .val (.int p1), .val (.int p2), .val (.int p3), .val (.int bb1), .val (.ref (ad4 Z a0)), .val (.ref (ad5 Z a0)), .unset, .unset] [(.int (1 : Int32)), (.int (1 : Int32))])
        refine g_icN X61 K (q := 60) at_57 (by decide) rfl ?_
        refine g_iconst X61 K (q := 61) (v := (1 : Int32)) at_60 (by decide) rfl ?_
        refine g_goto X61 K (q := 65) at_61 (by decide) (by decide) ?_
        refine g_istore X61 K (q := 67) (L' := #[.val (.int p0), .val (.int p1), .val (.int p2), .val (.int p3), .val (.int bb1), .val (.ref (ad4 Z a0)), .val (.ref (ad5 Z a0)), .val (.int (1 : Int32)), .unset]) at_65 rfl rfl ?_
        refine g_aload X61 K (q := 69) at_67 rfl rfl rfl ?_
        refine g_virtual X61 K (q := 72) (W := 0) (a := (ad5 Z a0)) (w8 H) (w9 H) (nf_self K (w11 H)) (w11 H) (w10 H) (w6 H) (w12 H) (by decide) (rm2_23 l H h0 Ol0) e61 ((x5 H).ext Ol0.2) rfl (argsL := []) (rest := []) (lenOf pd_2 rfl) rfl rfl (Nat.le_of_eq rfl) at_69 (by decide) (by decide) (by decide) (by decide) rfl ?_
        rintro T62 v62 L62 X62 ⟨rfl, N62q, e62⟩
        have N62 := Fr.app N61 N62q
        show Go p e below _ T62 (mkF m 72 #[.val (.int p0), .val (.int p1), .val (.int p2), .val (.int p3), .val (.int bb1), .val (.ref (ad4 Z a0)), .val (.ref (ad5 Z a0)), .val (.int (1 : Int32)), .unset] [(.ref (ad4 Z a0))])
        refine g_aload X62 K (q := 74) at_72 rfl rfl rfl ?_
        refine g_ac X62 K (q := 77) (same := true) at_74 rfl rfl (decide_eq_true rfl) (by decide) (by decide) ?_
        refine g_iconst X62 K (q := 78) (v := (1 : Int32)) at_77 (by decide) rfl ?_
        refine g_goto X62 K (q := 82) at_78 (by decide) (by decide) ?_
        refine g_istore X62 K (q := 84) (L' := #[.val (.int p0), .val (.int p1), .val (.int p2), .val (.int p3), .val (.int bb1), .val (.ref (ad4 Z a0)), .val (.ref (ad5 Z a0)), .val (.int (1 : Int32)), .val (.int (1 : Int32))]) at_82 rfl rfl ?_
        refine g_iload X62 K (q := 86) at_84 rfl rfl ?_
        refine g_ifN X62 K (q := 89) at_86 (by decide) rfl ?_
        refine g_iload X62 K (q := 91) at_89 rfl rfl ?_
        refine g_ifN X62 K (q := 94) at_91 (by decide) rfl ?_
        refine g_iconst X62 K (q := 95) (v := (1 : Int32)) at_94 (by decide) rfl ?_
        refine g_goto X62 K (q := 99) at_95 (by decide) (by decide) ?_
        refine g_nret X62 K (by simp) (z' := (1 : Int32)) (by decide) at_99 (by decide) (by decide) ?_
        exact ⟨rfl, N62⟩
    · have N38 := Fr.app N0 N38q
      show Go p e below _ T38 (mkF m 25 #[.val (.int p0), .val (.int p1), .val (.int p2), .val (.int p3), .val (.int bb1), .unset, .unset, .unset, .unset] [(.ref (ad2 Z a0))])
      refine g_astore X38 K (q := 27) (L' := #[.val (.int p0), .val (.int p1), .val (.int p2), .val (.int p3), .val (.int bb1), .val (.ref (ad2 Z a0)), .unset, .unset, .unset]) at_25 rfl rfl rfl ?_
      refine g_aload X38 K (q := 29) at_27 rfl rfl rfl ?_
      refine g_virtual X38 K (q := 32) (W := 0) (a := (ad2 Z a0)) (w8 H) (w9 H) (nf_self K (w11 H)) (w11 H) (w10 H) (w6 H) (w12 H) (by decide) (rm2_16 l H h0 Ol0) e38 ((x2 H).ext Ol0.2) rfl (argsL := []) (rest := []) (lenOf pd_2 rfl) rfl rfl (Nat.le_of_eq rfl) at_29 (by decide) (by decide) (by decide) (by decide) rfl ?_
      rintro T63 v63 L63 X63 ⟨rfl, N63q, e63⟩
      have N63 := Fr.app N38 N63q
      show Go p e below _ T63 (mkF m 32 #[.val (.int p0), .val (.int p1), .val (.int p2), .val (.int p3), .val (.int bb1), .val (.ref (ad2 Z a0)), .unset, .unset, .unset] [(.ref (ad3 Z a0))])
      refine g_astore X63 K (q := 34) (L' := #[.val (.int p0), .val (.int p1), .val (.int p2), .val (.int p3), .val (.int bb1), .val (.ref (ad2 Z a0)), .val (.ref (ad3 Z a0)), .unset, .unset]) at_32 rfl rfl rfl ?_
      refine g_aload X63 K (q := 36) at_34 rfl rfl rfl ?_
      refine g_nonnullY X63 K (q := 41) at_36 (by decide) (by decide) ?_
      refine g_aload X63 K (q := 43) at_41 rfl rfl rfl ?_
      refine g_iloadN X63 K (q := 44) at_43 rfl rfl ?_
      refine g_iload X63 K (q := 46) at_44 rfl rfl ?_
      refine g_static X63 K (q := 49) (W := 0) (w22 H) (w23 H) (w2 H) (w24 H) (by decide) (rm4_25 l H p1 bb1 h0 Ol0) e63 rfl (argsL := [(.ref (ad2 Z a0)), (.int p1), (.int bb1)]) (rest := []) (lenOf pd_3 rfl) rfl rfl (Nat.le_of_eq rfl) at_46 (by decide) (by decide) (by decide) (by decide) rfl ?_
      rintro T64 v64 L64 X64 (⟨hc34, rfl, N64q, e64⟩ | ⟨hc35, rfl, N64q, e64⟩)
      · have N64 := Fr.app N63 N64q
        show Go p e below _ T64 (mkF m 49 #[.val (.int p0), .val (.int p1), .val (.int p2), .val (.int p3), .val (.int bb1), .val (.ref (ad2 Z a0)), .val (.ref (ad3 Z a0)), .unset, .unset] [(.int (1 : Int32))])
        refine g_aload X64 K (q := 51) at_49 rfl rfl rfl ?_
        refine g_iload X64 K (q := 53) at_51 rfl rfl ?_
        refine g_iloadN X64 K (q := 54) at_53 rfl rfl ?_
        refine g_static X64 K (q := 57) (W := 1) (w22 H) (w23 H) (w2 H) (w24 H) (by decide) (rm4_26 l H bb1 p1 h0 Ol0 hc34) e64 rfl (argsL := [(.ref (ad3 Z a0)), (.int bb1), (.int p1)]) (rest := [(.int (1 : Int32))]) (lenOf pd_3 rfl) rfl rfl (Nat.le_of_eq rfl) at_54 (by decide) (by decide) (by decide) (by decide) rfl ?_
        rintro T65 v65 L65 X65 ⟨rfl, N65q, e65⟩
        have N65 := Fr.app N64 N65q
        show Go p e below _ T65 (mkF m 57 #[.val (.int p0), .val (.int p1), .val (.int p2), .val (.int p3), .val (.int bb1), .val (.ref (ad2 Z a0)), .val (.ref (ad3 Z a0)), .unset, .unset] [(.int (1 : Int32)), (.int (1 : Int32))])
        refine g_icN X65 K (q := 60) at_57 (by decide) rfl ?_
        refine g_iconst X65 K (q := 61) (v := (1 : Int32)) at_60 (by decide) rfl ?_
        refine g_goto X65 K (q := 65) at_61 (by decide) (by decide) ?_
        refine g_istore X65 K (q := 67) (L' := #[.val (.int p0), .val (.int p1), .val (.int p2), .val (.int p3), .val (.int bb1), .val (.ref (ad2 Z a0)), .val (.ref (ad3 Z a0)), .val (.int (1 : Int32)), .unset]) at_65 rfl rfl ?_
        refine g_aload X65 K (q := 69) at_67 rfl rfl rfl ?_
        refine g_virtual X65 K (q := 72) (W := 0) (a := (ad3 Z a0)) (w8 H) (w9 H) (nf_self K (w11 H)) (w11 H) (w10 H) (w6 H) (w12 H) (by decide) (rm2_12 l H h0 Ol0) e65 ((x3 H).ext Ol0.2) rfl (argsL := []) (rest := []) (lenOf pd_2 rfl) rfl rfl (Nat.le_of_eq rfl) at_69 (by decide) (by decide) (by decide) (by decide) rfl ?_
        rintro T66 v66 L66 X66 ⟨rfl, N66q, e66⟩
        have N66 := Fr.app N65 N66q
        show Go p e below _ T66 (mkF m 72 #[.val (.int p0), .val (.int p1), .val (.int p2), .val (.int p3), .val (.int bb1), .val (.ref (ad2 Z a0)), .val (.ref (ad3 Z a0)), .val (.int (1 : Int32)), .unset] [(.ref (ad2 Z a0))])
        refine g_aload X66 K (q := 74) at_72 rfl rfl rfl ?_
        refine g_ac X66 K (q := 77) (same := true) at_74 rfl rfl (decide_eq_true rfl) (by decide) (by decide) ?_
        refine g_iconst X66 K (q := 78) (v := (1 : Int32)) at_77 (by decide) rfl ?_
        refine g_goto X66 K (q := 82) at_78 (by decide) (by decide) ?_
        refine g_istore X66 K (q := 84) (L' := #[.val (.int p0), .val (.int p1), .val (.int p2), .val (.int p3), .val (.int bb1), .val (.ref (ad2 Z a0)), .val (.ref (ad3 Z a0)), .val (.int (1 : Int32)), .val (.int (1 : Int32))]) at_82 rfl rfl ?_
        refine g_iload X66 K (q := 86) at_84 rfl rfl ?_
        refine g_ifN X66 K (q := 89) at_86 (by decide) rfl ?_
        refine g_iload X66 K (q := 91) at_89 rfl rfl ?_
        refine g_ifN X66 K (q := 94) at_91 (by decide) rfl ?_
        refine g_iconst X66 K (q := 95) (v := (1 : Int32)) at_94 (by decide) rfl ?_
        refine g_goto X66 K (q := 99) at_95 (by decide) (by decide) ?_
        refine g_nret X66 K (by simp) (z' := (1 : Int32)) (by decide) at_99 (by decide) (by decide) ?_
        exact ⟨rfl, N66⟩
      · have N64 := Fr.app N63 N64q
        show Go p e below _ T64 (mkF m 49 #[.val (.int p0), .val (.int p1), .val (.int p2), .val (.int p3), .val (.int bb1), .val (.ref (ad2 Z a0)), .val (.ref (ad3 Z a0)), .unset, .unset] [(.int (0 : Int32))])
        refine g_aload X64 K (q := 51) at_49 rfl rfl rfl ?_
        refine g_iload X64 K (q := 53) at_51 rfl rfl ?_
        refine g_iloadN X64 K (q := 54) at_53 rfl rfl ?_
        refine g_static X64 K (q := 57) (W := 1) (w22 H) (w23 H) (w2 H) (w24 H) (by decide) (rm4_27 l H bb1 p1 h0 Ol0 hc35) e64 rfl (argsL := [(.ref (ad3 Z a0)), (.int bb1), (.int p1)]) (rest := [(.int (0 : Int32))]) (lenOf pd_3 rfl) rfl rfl (Nat.le_of_eq rfl) at_54 (by decide) (by decide) (by decide) (by decide) rfl ?_
        rintro T67 v67 L67 X67 ⟨rfl, N67q, e67⟩
        have N67 := Fr.app N64 N67q
        show Go p e below _ T67 (mkF m 57 #[.val (.int p0), .val (.int p1), .val (.int p2), .val (.int p3), .val (.int bb1), .val (.ref (ad2 Z a0)), .val (.ref (ad3 Z a0)), .unset, .unset] [(.int (0 : Int32)), (.int (0 : Int32))])
        refine g_icN X67 K (q := 60) at_57 (by decide) rfl ?_
        refine g_iconst X67 K (q := 61) (v := (1 : Int32)) at_60 (by decide) rfl ?_
        refine g_goto X67 K (q := 65) at_61 (by decide) (by decide) ?_
        refine g_istore X67 K (q := 67) (L' := #[.val (.int p0), .val (.int p1), .val (.int p2), .val (.int p3), .val (.int bb1), .val (.ref (ad2 Z a0)), .val (.ref (ad3 Z a0)), .val (.int (1 : Int32)), .unset]) at_65 rfl rfl ?_
        refine g_aload X67 K (q := 69) at_67 rfl rfl rfl ?_
        refine g_virtual X67 K (q := 72) (W := 0) (a := (ad3 Z a0)) (w8 H) (w9 H) (nf_self K (w11 H)) (w11 H) (w10 H) (w6 H) (w12 H) (by decide) (rm2_12 l H h0 Ol0) e67 ((x3 H).ext Ol0.2) rfl (argsL := []) (rest := []) (lenOf pd_2 rfl) rfl rfl (Nat.le_of_eq rfl) at_69 (by decide) (by decide) (by decide) (by decide) rfl ?_
        rintro T68 v68 L68 X68 ⟨rfl, N68q, e68⟩
        have N68 := Fr.app N67 N68q
        show Go p e below _ T68 (mkF m 72 #[.val (.int p0), .val (.int p1), .val (.int p2), .val (.int p3), .val (.int bb1), .val (.ref (ad2 Z a0)), .val (.ref (ad3 Z a0)), .val (.int (1 : Int32)), .unset] [(.ref (ad2 Z a0))])
        refine g_aload X68 K (q := 74) at_72 rfl rfl rfl ?_
        refine g_ac X68 K (q := 77) (same := true) at_74 rfl rfl (decide_eq_true rfl) (by decide) (by decide) ?_
        refine g_iconst X68 K (q := 78) (v := (1 : Int32)) at_77 (by decide) rfl ?_
        refine g_goto X68 K (q := 82) at_78 (by decide) (by decide) ?_
        refine g_istore X68 K (q := 84) (L' := #[.val (.int p0), .val (.int p1), .val (.int p2), .val (.int p3), .val (.int bb1), .val (.ref (ad2 Z a0)), .val (.ref (ad3 Z a0)), .val (.int (1 : Int32)), .val (.int (1 : Int32))]) at_82 rfl rfl ?_
        refine g_iload X68 K (q := 86) at_84 rfl rfl ?_
        refine g_ifN X68 K (q := 89) at_86 (by decide) rfl ?_
        refine g_iload X68 K (q := 91) at_89 rfl rfl ?_
        refine g_ifN X68 K (q := 94) at_91 (by decide) rfl ?_
        refine g_iconst X68 K (q := 95) (v := (1 : Int32)) at_94 (by decide) rfl ?_
        refine g_goto X68 K (q := 99) at_95 (by decide) (by decide) ?_
        refine g_nret X68 K (by simp) (z' := (1 : Int32)) (by decide) at_99 (by decide) (by decide) ?_
        exact ⟨rfl, N68⟩
    · have N38 := Fr.app N0 N38q
      show Go p e below _ T38 (mkF m 25 #[.val (.int p0), .val (.int p1), .val (.int p2), .val (.int p3), .val (.int bb1), .unset, .unset, .unset, .unset] [(.ref (ad5 Z a0))])
      refine g_astore X38 K (q := 27) (L' := #[.val (.int p0), .val (.int p1), .val (.int p2), .val (.int p3), .val (.int bb1), .val (.ref (ad5 Z a0)), .unset, .unset, .unset]) at_25 rfl rfl rfl ?_
      refine g_aload X38 K (q := 29) at_27 rfl rfl rfl ?_
      refine g_virtual X38 K (q := 32) (W := 0) (a := (ad5 Z a0)) (w8 H) (w9 H) (nf_self K (w11 H)) (w11 H) (w10 H) (w6 H) (w12 H) (by decide) (rm2_23 l H h0 Ol0) e38 ((x5 H).ext Ol0.2) rfl (argsL := []) (rest := []) (lenOf pd_2 rfl) rfl rfl (Nat.le_of_eq rfl) at_29 (by decide) (by decide) (by decide) (by decide) rfl ?_
      rintro T69 v69 L69 X69 ⟨rfl, N69q, e69⟩
      have N69 := Fr.app N38 N69q
      show Go p e below _ T69 (mkF m 32 #[.val (.int p0), .val (.int p1), .val (.int p2), .val (.int p3), .val (.int bb1), .val (.ref (ad5 Z a0)), .unset, .unset, .unset] [(.ref (ad4 Z a0))])
      refine g_astore X69 K (q := 34) (L' := #[.val (.int p0), .val (.int p1), .val (.int p2), .val (.int p3), .val (.int bb1), .val (.ref (ad5 Z a0)), .val (.ref (ad4 Z a0)), .unset, .unset]) at_32 rfl rfl rfl ?_
      refine g_aload X69 K (q := 36) at_34 rfl rfl rfl ?_
      refine g_nonnullY X69 K (q := 41) at_36 (by decide) (by decide) ?_
      refine g_aload X69 K (q := 43) at_41 rfl rfl rfl ?_
      refine g_iloadN X69 K (q := 44) at_43 rfl rfl ?_
      refine g_iload X69 K (q := 46) at_44 rfl rfl ?_
      refine g_static X69 K (q := 49) (W := 0) (w22 H) (w23 H) (w2 H) (w24 H) (by decide) (rm4_28 l H p1 bb1 h0 Ol0) e69 rfl (argsL := [(.ref (ad5 Z a0)), (.int p1), (.int bb1)]) (rest := []) (lenOf pd_3 rfl) rfl rfl (Nat.le_of_eq rfl) at_46 (by decide) (by decide) (by decide) (by decide) rfl ?_
      rintro T70 v70 L70 X70 (⟨hc36, rfl, N70q, e70⟩ | ⟨hc37, rfl, N70q, e70⟩)
      · have N70 := Fr.app N69 N70q
        show Go p e below _ T70 (mkF m 49 #[.val (.int p0), .val (.int p1), .val (.int p2), .val (.int p3), .val (.int bb1), .val (.ref (ad5 Z a0)), .val (.ref (ad4 Z a0)), .unset, .unset] [(.int (0 : Int32))])
        refine g_aload X70 K (q := 51) at_49 rfl rfl rfl ?_
        refine g_iload X70 K (q := 53) at_51 rfl rfl ?_
        refine g_iloadN X70 K (q := 54) at_53 rfl rfl ?_
        refine g_static X70 K (q := 57) (W := 1) (w22 H) (w23 H) (w2 H) (w24 H) (by decide) (rm4_29 l H bb1 p1 h0 Ol0 hc36) e70 rfl (argsL := [(.ref (ad4 Z a0)), (.int bb1), (.int p1)]) (rest := [(.int (0 : Int32))]) (lenOf pd_3 rfl) rfl rfl (Nat.le_of_eq rfl) at_54 (by decide) (by decide) (by decide) (by decide) rfl ?_
        rintro T71 v71 L71 X71 ⟨rfl, N71q, e71⟩
        have N71 := Fr.app N70 N71q
        show Go p e below _ T71 (mkF m 57 #[.val (.int p0), .val (.int p1), .val (.int p2), .val (.int p3), .val (.int bb1), .val (.ref (ad5 Z a0)), .val (.ref (ad4 Z a0)), .unset, .unset] [(.int (0 : Int32)), (.int (0 : Int32))])
        refine g_icN X71 K (q := 60) at_57 (by decide) rfl ?_
        refine g_iconst X71 K (q := 61) (v := (1 : Int32)) at_60 (by decide) rfl ?_
        refine g_goto X71 K (q := 65) at_61 (by decide) (by decide) ?_
        refine g_istore X71 K (q := 67) (L' := #[.val (.int p0), .val (.int p1), .val (.int p2), .val (.int p3), .val (.int bb1), .val (.ref (ad5 Z a0)), .val (.ref (ad4 Z a0)), .val (.int (1 : Int32)), .unset]) at_65 rfl rfl ?_
        refine g_aload X71 K (q := 69) at_67 rfl rfl rfl ?_
        refine g_virtual X71 K (q := 72) (W := 0) (a := (ad4 Z a0)) (w8 H) (w9 H) (nf_self K (w11 H)) (w11 H) (w10 H) (w6 H) (w12 H) (by decide) (rm2_19 l H h0 Ol0) e71 ((x4 H).ext Ol0.2) rfl (argsL := []) (rest := []) (lenOf pd_2 rfl) rfl rfl (Nat.le_of_eq rfl) at_69 (by decide) (by decide) (by decide) (by decide) rfl ?_
        rintro T72 v72 L72 X72 ⟨rfl, N72q, e72⟩
        have N72 := Fr.app N71 N72q
        show Go p e below _ T72 (mkF m 72 #[.val (.int p0), .val (.int p1), .val (.int p2), .val (.int p3), .val (.int bb1), .val (.ref (ad5 Z a0)), .val (.ref (ad4 Z a0)), .val (.int (1 : Int32)), .unset] [(.ref (ad5 Z a0))])
        refine g_aload X72 K (q := 74) at_72 rfl rfl rfl ?_
        refine g_ac X72 K (q := 77) (same := true) at_74 rfl rfl (decide_eq_true rfl) (by decide) (by decide) ?_
        refine g_iconst X72 K (q := 78) (v := (1 : Int32)) at_77 (by decide) rfl ?_
        refine g_goto X72 K (q := 82) at_78 (by decide) (by decide) ?_
        refine g_istore X72 K (q := 84) (L' := #[.val (.int p0), .val (.int p1), .val (.int p2), .val (.int p3), .val (.int bb1), .val (.ref (ad5 Z a0)), .val (.ref (ad4 Z a0)), .val (.int (1 : Int32)), .val (.int (1 : Int32))]) at_82 rfl rfl ?_
        refine g_iload X72 K (q := 86) at_84 rfl rfl ?_
        refine g_ifN X72 K (q := 89) at_86 (by decide) rfl ?_
        refine g_iload X72 K (q := 91) at_89 rfl rfl ?_
        refine g_ifN X72 K (q := 94) at_91 (by decide) rfl ?_
        refine g_iconst X72 K (q := 95) (v := (1 : Int32)) at_94 (by decide) rfl ?_
        refine g_goto X72 K (q := 99) at_95 (by decide) (by decide) ?_
        refine g_nret X72 K (by simp) (z' := (1 : Int32)) (by decide) at_99 (by decide) (by decide) ?_
        exact ⟨rfl, N72⟩
      · have N70 := Fr.app N69 N70q
        show Go p e below _ T70 (mkF m 49 #[.val (.int p0), .val (.int p1), .val (.int p2), .val (.int p3), .val (.int bb1), .val (.ref (ad5 Z a0)), .val (.ref (ad4 Z a0)), .unset, .unset] [(.int (1 : Int32))])
        refine g_aload X70 K (q := 51) at_49 rfl rfl rfl ?_
        refine g_iload X70 K (q := 53) at_51 rfl rfl ?_
        refine g_iloadN X70 K (q := 54) at_53 rfl rfl ?_
        refine g_static X70 K (q := 57) (W := 1) (w22 H) (w23 H) (w2 H) (w24 H) (by decide) (rm4_30 l H bb1 p1 h0 Ol0 hc37) e70 rfl (argsL := [(.ref (ad4 Z a0)), (.int bb1), (.int p1)]) (rest := [(.int (1 : Int32))]) (lenOf pd_3 rfl) rfl rfl (Nat.le_of_eq rfl) at_54 (by decide) (by decide) (by decide) (by decide) rfl ?_
        rintro T73 v73 L73 X73 ⟨rfl, N73q, e73⟩
        have N73 := Fr.app N70 N73q
        show Go p e below _ T73 (mkF m 57 #[.val (.int p0), .val (.int p1), .val (.int p2), .val (.int p3), .val (.int bb1), .val (.ref (ad5 Z a0)), .val (.ref (ad4 Z a0)), .unset, .unset] [(.int (1 : Int32)), (.int (1 : Int32))])
        refine g_icN X73 K (q := 60) at_57 (by decide) rfl ?_
        refine g_iconst X73 K (q := 61) (v := (1 : Int32)) at_60 (by decide) rfl ?_
        refine g_goto X73 K (q := 65) at_61 (by decide) (by decide) ?_
        refine g_istore X73 K (q := 67) (L' := #[.val (.int p0), .val (.int p1), .val (.int p2), .val (.int p3), .val (.int bb1), .val (.ref (ad5 Z a0)), .val (.ref (ad4 Z a0)), .val (.int (1 : Int32)), .unset]) at_65 rfl rfl ?_
        refine g_aload X73 K (q := 69) at_67 rfl rfl rfl ?_
        refine g_virtual X73 K (q := 72) (W := 0) (a := (ad4 Z a0)) (w8 H) (w9 H) (nf_self K (w11 H)) (w11 H) (w10 H) (w6 H) (w12 H) (by decide) (rm2_19 l H h0 Ol0) e73 ((x4 H).ext Ol0.2) rfl (argsL := []) (rest := []) (lenOf pd_2 rfl) rfl rfl (Nat.le_of_eq rfl) at_69 (by decide) (by decide) (by decide) (by decide) rfl ?_
        rintro T74 v74 L74 X74 ⟨rfl, N74q, e74⟩
        have N74 := Fr.app N73 N74q
        show Go p e below _ T74 (mkF m 72 #[.val (.int p0), .val (.int p1), .val (.int p2), .val (.int p3), .val (.int bb1), .val (.ref (ad5 Z a0)), .val (.ref (ad4 Z a0)), .val (.int (1 : Int32)), .unset] [(.ref (ad5 Z a0))])
        refine g_aload X74 K (q := 74) at_72 rfl rfl rfl ?_
        refine g_ac X74 K (q := 77) (same := true) at_74 rfl rfl (decide_eq_true rfl) (by decide) (by decide) ?_
        refine g_iconst X74 K (q := 78) (v := (1 : Int32)) at_77 (by decide) rfl ?_
        refine g_goto X74 K (q := 82) at_78 (by decide) (by decide) ?_
        refine g_istore X74 K (q := 84) (L' := #[.val (.int p0), .val (.int p1), .val (.int p2), .val (.int p3), .val (.int bb1), .val (.ref (ad5 Z a0)), .val (.ref (ad4 Z a0)), .val (.int (1 : Int32)), .val (.int (1 : Int32))]) at_82 rfl rfl ?_
        refine g_iload X74 K (q := 86) at_84 rfl rfl ?_
        refine g_ifN X74 K (q := 89) at_86 (by decide) rfl ?_
        refine g_iload X74 K (q := 91) at_89 rfl rfl ?_
        refine g_ifN X74 K (q := 94) at_91 (by decide) rfl ?_
        refine g_iconst X74 K (q := 95) (v := (1 : Int32)) at_94 (by decide) rfl ?_
        refine g_goto X74 K (q := 99) at_95 (by decide) (by decide) ?_
        refine g_nret X74 K (by simp) (z' := (1 : Int32)) (by decide) at_99 (by decide) (by decide) ?_
        exact ⟨rfl, N74⟩
set_option maxRecDepth 65536 in
set_option maxHeartbeats 40000000 in
theorem comes_1 {Post : Tables → Env → Array Value → State → Outcome → State → Prop} (hpost : ∀ tb e args s v u, (limb_1_1.after args s (.returned v) u = true ∧ limb_1_2.after args s (.returned v) u = true ∧ True) → FrameEnd s (.returned v) u (Jvm.fieldLocs frame_1_writes args s ++ Jvm.arrayLocs frame_1_arrays args s ++ Jvm.staticLocs frame_1_statics s) 0 0 → Post tb e args s (.returned v) u) :
    ArmFor flags0 classFile x code maxLocals ret World_1 tables_1 room_1 Calls_1 rest_1 Pre_1 Post := by
  intro l hfl _ _ p e ha hc hk s m args below hf hA hF happ hP
  obtain ⟨hcalls, hrest, hpre⟩ := hP
  obtain ⟨-, -, -, hnamed, -, -, -, hat⟩ := (Spec.applies_iff hf).mp happ
  obtain ⟨hg, hn⟩ := and_e (Cond.before_iff.mp (show (Jvm.Cond.and given_1 narrow_1).before args s = true from hpre))
  obtain ⟨g0, hg0⟩ := and_e hg
  obtain ⟨g1, hg1⟩ := and_e hg0
  obtain ⟨g2, hg2⟩ := and_e hg1
  obtain ⟨g3, hg3⟩ := and_e hg2
  have g4 := hg3
  obtain ⟨u0, u1, u2, u3, rfl⟩ : ∃ u0 u1 u2 u3 : Value, args = #[u0, u1, u2, u3] := by
    have hs : args.size = 4 := by simpa [Cond.value, given_1] using g0
    obtain ⟨L⟩ := args
    match L, hs with
    | [u0, u1, u2, u3], _ => exact ⟨u0, u1, u2, u3, rfl⟩
  have hw := fun d (hd : d ∈ tables_1) => atoms_spec (ws := Jvm.Cond.code x code maxLocals ret :: tables_1) hat d (List.mem_cons_of_mem _ hd)
  have hfit : Fit s := fun {y c} hc i hi => by
    obtain ⟨ha, rfl⟩ := Array.getElem?_eq_some_iff.mp hc
    have q := List.all_eq_true.mp ((Array.all_eq_true_iff_forall_mem.mp hF) _ (Array.getElem_mem ha)) i (List.mem_range.mpr hi)
    simpa [Array.getElem?_eq_getElem hi] using q
  obtain ⟨i0, ei0⟩ := is_v g1
  obtain rfl : u0 = (.int i0) := Option.some.inj ei0
  obtain ⟨i1, ei1⟩ := is_v g2
  obtain rfl : u1 = (.int i1) := Option.some.inj ei1
  obtain ⟨i2, ei2⟩ := is_v g3
  obtain rfl : u2 = (.int i2) := Option.some.inj ei2
  obtain ⟨i3, ei3⟩ := is_v g4
  obtain rfl : u3 = (.int i3) := Option.some.inj ei3
  obtain ⟨n, o, h1, h2, h3, _, L, rfl, ⟨rfl, N⟩, hq⟩ := rm0 l (Z := s) ⟨hw, hn, hfit⟩ i0 i1 i2 i3 s.heap (Old.start s) p e ha hc hk s m _ below hf ((Spec.applies_iff_loose hf).mp happ).1 ⟨rfl, State.Warmed39.refl s, rfl⟩ trivial
  refine ⟨n, _, h1, h2, h3, hpost _ _ _ _ _ _ ⟨Cond.after_iff.mpr rfl, Cond.after_iff.mpr (eq_i res_at (Term.int_eval (1)) rfl), trivial⟩ ⟨hq.1, hq.2.1, (hq.2.2.sift fun y hy => Or.inr (N y hy)).mono (by decide) (by decide)⟩⟩
theorem main_1_1 : Claimed_1_1 := comes_1 fun _ _ _ _ _ _ h hF => ⟨h.1, hF⟩
theorem main_1_2 : Claimed_1_2 := comes_1 fun _ _ _ _ _ _ h hF => ⟨h.2.1, hF⟩
end Jvm.Pilot.@@N@@
namespace Jvm.Pilot.@@N@@
open Jvm Jvm.ClassFile Sem Op Lib Jvm.Free Jvm.Stand Jvm.Pilot.@@N@@.Jvm.D
/-! MADE BY PROGRAM (witnessworld.py) out of the Statement's table words and the real class files: 12 classes; the members and pool entries that the words name. The judged class is class 1, her method 3. -/
namespace start1
open Jvm.ClassFile
def u (s : String) : CpInfo := .utf8 (stringToUtf16 s)
/-- a pool by its gaps: so many unusable entries, then the entry; so many at the end -/
def gap : Nat → List CpInfo → List CpInfo
  | 0, r => r
  | n + 1, r => .unusable :: gap n r
def poolList (es : List (Nat × CpInfo)) (last : Nat) : List CpInfo := es.foldr (fun e r => gap e.1 (e.2 :: r)) (gap last [])
def pool (es : List (Nat × CpInfo)) (last : Nat) : Array CpInfo := ⟨poolList es last⟩
def fileOf (pool : Array CpInfo) (this : Nat) (attrs : Array Attribute := #[]) (ms : Array MethodInfo := #[]) (fl : Nat := 33) (sup : Nat := 0) (ifs : Array Nat := #[]) (fds : Array FieldInfo := #[]) : ClassFile where
  minorVersion := 0
  majorVersion := 65
  constantPool := pool
  accessFlags := fl
  thisClass := this
  superClass := sup
  interfaces := ifs
  fields := fds
  methods := ms
  attributes := attrs
def plain (name : String) (sup : Option ClassId) : Class where
  name := name
  kind := .ordinary
  loader := none
  accessFlags := 33
  super := sup
  interfaces := #[]
  cf := none
  fields := #[]
  methods := #[]
  instanceTypes := #[]
  staticTypes := #[]
  resolved := #[]
  callSites := []
  init := .initialized
  statics := none
  mirror := none

def pool0 : Array CpInfo := pool [(5, u "<init>"), (0, u "()V"), (1, .class_ 10), (1, u "java/lang/Object")] 113

def k0m0 : Method := { name := "<init>", desc := "()V", sig := { parameters := [], returnType := none }, accessFlags := 1, code := none }
/-- java/lang/Object -/
def k0 : Class := { plain "java/lang/Object" none with
  accessFlags := 33
  interfaces := #[]
  cf := some (fileOf pool0 8 #[] #[{ accessFlags := 1, nameIndex := 5, descriptorIndex := 6, attributes := #[] }] 33 0 #[] #[])
  fields := #[]
  methods := #[k0m0]
  instanceTypes := #[]
  staticTypes := #[]
  resolved := Array.replicate 124 none
  statics := none }

def pool1 : Array CpInfo := pool [(2, .class_ 4), (1, u "java/lang/Object"), (0, u "<init>"), (0, u "()V"), (0, .integer 2147483647), (0, .fieldref 9 10), (0, .class_ 11), (0, .nameAndType 12 13), (0, u "com/example/annotable/annotable/PathQuery$Comparison"), (0, u "EQUAL"), (0, u "Lcom/example/annotable/annotable/PathQuery$Comparison;"), (0, .fieldref 9 15), (0, .nameAndType 16 13), (0, u "NOT_EQUAL"), (0, .fieldref 9 18), (0, .nameAndType 19 13), (0, u "LESS"), (0, .fieldref 9 21), (0, .nameAndType 22 13), (0, u "LESS_OR_EQUAL"), (0, .fieldref 9 24), (0, .nameAndType 25 13), (0, u "GREATER"), (0, .fieldref 9 27), (0, .nameAndType 28 13), (0, u "GREATER_OR_EQUAL"), (0, .methodref 30 31), (0, .class_ 32), (0, .nameAndType 33 34), (0, u "com/example/annotable/annotable/ComparisonSwappedPinLaw"), (0, u "pick"), (0, u "(I)Lcom/example/annotable/annotable/PathQuery$Comparison;"), (0, .methodref 9 36), (0, .nameAndType 37 38), (0, u "swapped"), (0, u "()Lcom/example/annotable/annotable/PathQuery$Comparison;"), (0, .methodref 30 40), (0, .nameAndType 41 42), (0, u "holds"), (0, u "(Lcom/example/annotable/annotable/PathQuery$Comparison;II)Z"), (3, u "law"), (0, u "(IIII)Z")] 6

def k1m0 : Method := { name := "<init>", desc := "()V", sig := { parameters := [], returnType := none }, accessFlags := 2, code := none }
def k1c1 : Code := { maxStack := 2, maxLocals := 2, code := method_2_code, exceptionTable := #[], attributes := #[] }
def k1m1 : Method := { name := "pick", desc := "(I)Lcom/example/annotable/annotable/PathQuery$Comparison;", sig := { parameters := [.int], returnType := some (.object "com/example/annotable/annotable/PathQuery$Comparison") }, accessFlags := 10, code := some k1c1 }
def k1c2 : Code := { maxStack := 2, maxLocals := 3, code := method_3_code, exceptionTable := #[], attributes := #[] }
def k1m2 : Method := { name := "holds", desc := "(Lcom/example/annotable/annotable/PathQuery$Comparison;II)Z", sig := { parameters := [(.object "com/example/annotable/annotable/PathQuery$Comparison"), .int, .int], returnType := some .boolean }, accessFlags := 10, code := some k1c2 }
def k1c3 : Code := { maxStack := 4, maxLocals := 9, code := code, exceptionTable := #[], attributes := #[] }
def k1m3 : Method := { name := "law", desc := "(IIII)Z", sig := { parameters := [.int, .int, .int, .int], returnType := some .boolean }, accessFlags := 9, code := some k1c3 }
/-- com/example/annotable/annotable/ComparisonSwappedPinLaw -/
def k1 : Class := { plain "com/example/annotable/annotable/ComparisonSwappedPinLaw" (some 0) with
  accessFlags := 49
  interfaces := #[]
  cf := some (fileOf pool1 30 #[] #[{ accessFlags := 2, nameIndex := 5, descriptorIndex := 6, attributes := #[] }, { accessFlags := 10, nameIndex := 33, descriptorIndex := 34, attributes := #[] }, { accessFlags := 10, nameIndex := 41, descriptorIndex := 42, attributes := #[] }, { accessFlags := 9, nameIndex := 46, descriptorIndex := 47, attributes := #[] }] 49 2 #[] #[])
  fields := #[]
  methods := #[k1m0, k1m1, k1m2, k1m3]
  instanceTypes := #[]
  staticTypes := #[]
  resolved := Array.replicate 54 none
  statics := none }

def pool2 : Array CpInfo := pool [(1, .class_ 2), (0, u "java/lang/constant/Constable"), (0, .class_ 4), (0, u "java/lang/Object")] 6

/-- java/lang/constant/Constable -/
def k2 : Class := { plain "java/lang/constant/Constable" (some 0) with
  accessFlags := 1537
  interfaces := #[]
  cf := some (fileOf pool2 1 #[] #[] 1537 3 #[] #[])
  fields := #[]
  methods := #[]
  instanceTypes := #[]
  staticTypes := #[]
  resolved := Array.replicate 11 none
  statics := none }

def pool3 : Array CpInfo := pool [(1, .class_ 2), (0, u "java/lang/Comparable"), (0, .class_ 4), (0, u "java/lang/Object")] 7

/-- java/lang/Comparable -/
def k3 : Class := { plain "java/lang/Comparable" (some 0) with
  accessFlags := 1537
  interfaces := #[]
  cf := some (fileOf pool3 1 #[] #[] 1537 3 #[] #[])
  fields := #[]
  methods := #[]
  instanceTypes := #[]
  staticTypes := #[]
  resolved := Array.replicate 12 none
  statics := none }

def pool4 : Array CpInfo := pool [(1, .class_ 2), (0, u "java/io/Serializable"), (0, .class_ 4), (0, u "java/lang/Object")] 2

/-- java/io/Serializable -/
def k4 : Class := { plain "java/io/Serializable" (some 0) with
  accessFlags := 1537
  interfaces := #[]
  cf := some (fileOf pool4 1 #[] #[] 1537 3 #[] #[])
  fields := #[]
  methods := #[]
  instanceTypes := #[]
  staticTypes := #[]
  resolved := Array.replicate 7 none
  statics := none }

def pool5 : Array CpInfo := pool [(2, .class_ 4), (1, u "java/lang/Enum"), (0, u "name"), (0, u "Ljava/lang/String;"), (0, .fieldref 2 8), (0, .nameAndType 9 10), (0, u "ordinal"), (0, u "I"), (1, .class_ 14), (1, u "java/lang/Object"), (4, u "hash"), (86, .class_ 108), (1, u "java/lang/Enum$EnumDesc"), (2, .class_ 112), (0, u "java/lang/constant/Constable"), (0, .class_ 114), (0, u "java/lang/Comparable"), (0, .class_ 116), (0, u "java/io/Serializable"), (9, u "()I")] 77

def k5c0 : Code := { maxStack := 1, maxLocals := 1, code := jdk_37_method_2_code, exceptionTable := #[], attributes := #[] }
def k5m0 : Method := { name := "ordinal", desc := "()I", sig := { parameters := [], returnType := some .int }, accessFlags := 17, code := some k5c0 }
/-- java/lang/Enum -/
def k5 : Class := { plain "java/lang/Enum" (some 0) with
  accessFlags := 1057
  interfaces := #[2, 3, 4]
  cf := some (fileOf pool5 2 #[.nestMembers #[106]] #[{ accessFlags := 17, nameIndex := 9, descriptorIndex := 126, attributes := #[] }] 1057 12 #[111, 113, 115] #[{ accessFlags := 18, nameIndex := 5, descriptorIndex := 6, attributes := #[] }, { accessFlags := 18, nameIndex := 9, descriptorIndex := 10, attributes := #[] }, { accessFlags := 2, nameIndex := 19, descriptorIndex := 10, attributes := #[] }])
  fields := #[{ name := "name", type := (.object "java/lang/String"), accessFlags := 18, slot := 0, constantValue := 0 }, { name := "ordinal", type := .int, accessFlags := 18, slot := 1, constantValue := 0 }, { name := "hash", type := .int, accessFlags := 2, slot := 2, constantValue := 0 }]
  methods := #[k5m0]
  instanceTypes := #[(.object "java/lang/String"), .int, .int]
  staticTypes := #[]
  resolved := Array.replicate 204 none
  statics := none }

def pool6 : Array CpInfo := pool [(1, .class_ 2), (0, u "com/example/annotable/annotable/PathQuery$Comparison"), (2, u "EQUAL"), (0, u "Lcom/example/annotable/annotable/PathQuery$Comparison;"), (2, u "NOT_EQUAL"), (0, .fieldref 1 11), (0, .nameAndType 12 6), (0, u "LESS"), (0, .fieldref 1 14), (0, .nameAndType 15 6), (0, u "LESS_OR_EQUAL"), (0, .fieldref 1 17), (0, .nameAndType 18 6), (0, u "GREATER"), (0, .fieldref 1 20), (0, .nameAndType 21 6), (0, u "GREATER_OR_EQUAL"), (2, u "$VALUES"), (0, u "[Lcom/example/annotable/annotable/PathQuery$Comparison;"), (6, .class_ 34), (1, u "java/lang/Enum"), (8, u "symbol"), (0, u "Ljava/lang/String;"), (0, .methodref 1 46), (0, .nameAndType 47 48), (0, u "ordinal"), (0, u "()I"), (41, u "swapped"), (0, u "()Lcom/example/annotable/annotable/PathQuery$Comparison;"), (8, .class_ 101), (0, u "com/example/annotable/annotable/PathQuery")] 2

def k6c0 : Code := { maxStack := 1, maxLocals := 1, code := prog_16_method_5_code, exceptionTable := #[], attributes := #[] }
def k6m0 : Method := { name := "swapped", desc := "()Lcom/example/annotable/annotable/PathQuery$Comparison;", sig := { parameters := [], returnType := some (.object "com/example/annotable/annotable/PathQuery$Comparison") }, accessFlags := 0, code := some k6c0 }
/-- com/example/annotable/annotable/PathQuery$Comparison -/
def k6 : Class := { plain "com/example/annotable/annotable/PathQuery$Comparison" (some 5) with
  accessFlags := 16432
  interfaces := #[]
  cf := some (fileOf pool6 1 #[.nestHost 100] #[{ accessFlags := 0, nameIndex := 90, descriptorIndex := 91, attributes := #[] }] 16432 32 #[] #[{ accessFlags := 16409, nameIndex := 5, descriptorIndex := 6, attributes := #[] }, { accessFlags := 16409, nameIndex := 9, descriptorIndex := 6, attributes := #[] }, { accessFlags := 16409, nameIndex := 12, descriptorIndex := 6, attributes := #[] }, { accessFlags := 16409, nameIndex := 15, descriptorIndex := 6, attributes := #[] }, { accessFlags := 16409, nameIndex := 18, descriptorIndex := 6, attributes := #[] }, { accessFlags := 16409, nameIndex := 21, descriptorIndex := 6, attributes := #[] }, { accessFlags := 18, nameIndex := 43, descriptorIndex := 44, attributes := #[] }, { accessFlags := 4122, nameIndex := 24, descriptorIndex := 25, attributes := #[] }])
  fields := #[{ name := "EQUAL", type := (.object "com/example/annotable/annotable/PathQuery$Comparison"), accessFlags := 16409, slot := 0, constantValue := 0 }, { name := "NOT_EQUAL", type := (.object "com/example/annotable/annotable/PathQuery$Comparison"), accessFlags := 16409, slot := 1, constantValue := 0 }, { name := "LESS", type := (.object "com/example/annotable/annotable/PathQuery$Comparison"), accessFlags := 16409, slot := 2, constantValue := 0 }, { name := "LESS_OR_EQUAL", type := (.object "com/example/annotable/annotable/PathQuery$Comparison"), accessFlags := 16409, slot := 3, constantValue := 0 }, { name := "GREATER", type := (.object "com/example/annotable/annotable/PathQuery$Comparison"), accessFlags := 16409, slot := 4, constantValue := 0 }, { name := "GREATER_OR_EQUAL", type := (.object "com/example/annotable/annotable/PathQuery$Comparison"), accessFlags := 16409, slot := 5, constantValue := 0 }, { name := "symbol", type := (.object "java/lang/String"), accessFlags := 18, slot := 3, constantValue := 0 }, { name := "$VALUES", type := (.array (.object "com/example/annotable/annotable/PathQuery$Comparison")), accessFlags := 4122, slot := 6, constantValue := 0 }]
  methods := #[k6m0]
  instanceTypes := #[(.object "java/lang/String"), .int, .int, (.object "java/lang/String")]
  staticTypes := #[(.object "com/example/annotable/annotable/PathQuery$Comparison"), (.object "com/example/annotable/annotable/PathQuery$Comparison"), (.object "com/example/annotable/annotable/PathQuery$Comparison"), (.object "com/example/annotable/annotable/PathQuery$Comparison"), (.object "com/example/annotable/annotable/PathQuery$Comparison"), (.object "com/example/annotable/annotable/PathQuery$Comparison"), (.array (.object "com/example/annotable/annotable/PathQuery$Comparison"))]
  resolved := Array.replicate 104 none
  statics := some 0 }

def pool7 : Array CpInfo := pool [(1, u "java/lang/Cloneable"), (0, .class_ 1), (0, u "java/lang/Object"), (0, .class_ 3)] 3

/-- java/lang/Cloneable -/
def k7 : Class := { plain "java/lang/Cloneable" (some 0) with
  accessFlags := 1537
  interfaces := #[]
  cf := some (fileOf pool7 2 #[] #[] 1537 4 #[] #[])
  fields := #[]
  methods := #[]
  instanceTypes := #[]
  staticTypes := #[]
  resolved := Array.replicate 8 none
  statics := none }

/-- the primitive byte -/
def k8 : Class := { plain "byte" none with kind := .primitive 'B', accessFlags := 0x411 }
/-- [B -/
def k9 : Class := { plain "[B" (some 0) with kind := .array 8 .byte, interfaces := #[7, 4], accessFlags := 1041 }

/-- the primitive int -/
def k10 : Class := { plain "int" none with kind := .primitive 'I', accessFlags := 0x411 }
/-- [I -/
def k11 : Class := { plain "[I" (some 0) with kind := .array 10 .int, interfaces := #[7, 4], accessFlags := 1041 }

def heap : Heap := #[{ cls := 6, slots := #[.ref 1, .ref 2, .ref 4, .ref 5, .ref 3, .ref 6, .null], vm := .statics 6 },
  { cls := 6, slots := #[.null, .int 0, .int 0, .null], vm := .none },
  { cls := 6, slots := #[.null, .int 1, .int 0, .null], vm := .none },
  { cls := 6, slots := #[.null, .int 4, .int 0, .null], vm := .none },
  { cls := 6, slots := #[.null, .int 2, .int 0, .null], vm := .none },
  { cls := 6, slots := #[.null, .int 3, .int 0, .null], vm := .none },
  { cls := 6, slots := #[.null, .int 5, .int 0, .null], vm := .none }]
def classes : Array Class := #[k0, k1, k2, k3, k4, k5, k6, k7, k8, k9, k10, k11]
def interned : List (Array UInt16 × Addr) := []
def slotsUsed : Nat := 31
def theMethod : MethodId := ⟨1, 3⟩
def args0 : Array Value := #[.int 2, .int 3, .int 4, .int 1]
def aboutOver (below : List Frame) : State where
  vm := { classes := classes, interned := interned.toArray }
  heap := heap
  slotsUsed := slotsUsed
  threads := #[{ frames := .invoking theMethod args0 :: below }]
def below0 : List Frame := [.native { method := ⟨0, 0⟩, args := #[] }]
def about1 : State := aboutOver below0
def p0 : Program := .bare "" "" ""
def e0 : Env := launch0.env 0 0 0
theorem w_frames : about1.frames = Frame.invoking theMethod args0 :: below0 := rfl
set_option maxRecDepth 65536 in
theorem w_args : argsFit about1.vm theMethod args0 = true := by decide +kernel
set_option maxRecDepth 65536 in
theorem w_heap : heapFits about1 = true := by decide +kernel
set_option maxRecDepth 65536 in
theorem w_runnable : about1.curStatus? = some .runnable := by decide +kernel
set_option maxRecDepth 65536 in
theorem w_alone : about1.alone = true := by decide +kernel
set_option maxRecDepth 65536 in
theorem w_named : about1.methodNamed? x = some theMethod := by decide +kernel
set_option maxRecDepth 65536 in
theorem w_hears : about1.hears theMethod below0 = true := by decide +kernel
set_option maxRecDepth 65536 in
theorem w_ripe : about1.ripe theMethod args0 below0 = true := by decide +kernel
theorem w_running : about1.status = .running := rfl
set_option maxRecDepth 65536 in
theorem w_room : about1.hasRoom e0.platform room_1 = true :=
  launch0.hasRoom_least _ room_1 (by decide +kernel) (by decide +kernel) (by decide +kernel) (by decide +kernel) (by decide +kernel) (by decide +kernel)
theorem allAtoms_all (ts : List Jvm.Cond) (a : Array Jvm.Value) (st : Jvm.State) : (allAtoms ts).before a st = ts.all (fun c => c.before a st) := by
  induction ts with
  | nil => rfl
  | cons c t ih =>
    show (Jvm.Cond.and c (allAtoms t)).before a st = _
    rw [Jvm.Cond.before_and, ih, List.all_cons]
def words1 : List Jvm.Cond := Jvm.Cond.code x code maxLocals ret :: tables_1
/-- a 'code' word, met by the world's own term for the bytes: nothing is compared byte by byte -/
theorem code_word {y : MethodName} {bytes : ByteArray} {mx : Nat} {rt : Option FieldType} {a : Array Value} {s : State} {m : MethodId} {meth : Method} {c : Code} (h1 : s.methodNamed? y = some m) (h2 : s.vm.method? m = some meth) (h3 : meth.code = some c) (h4 : c.code = bytes)
    (h5 : (c.maxLocals == mx && c.exceptionTable.isEmpty && decide (c.maxStack ≤ mostOperands) && decide (meth.sig.returnType = rt) && !meth.locks && decide (parseMethodDescriptor y.desc = some meth.sig)) = true) : (Jvm.Cond.code y bytes mx rt).before a s = true := by
  simp only [Bool.and_eq_true, beq_iff_eq, Bool.not_eq_true', decide_eq_true_eq] at h5
  obtain ⟨⟨⟨⟨⟨g1, g2⟩, g3⟩, g4⟩, g5⟩, g6⟩ := h5
  simp [Cond.before, Cond.holds, Cond.value, h1, h2, h3, h4, g1, g2, g3, g4, g5, g6]
def isCode : Jvm.Cond → Bool
  | .code _ _ _ _ => true
  | _ => false
theorem all_split {L : List Jvm.Cond} {P : Jvm.Cond → Bool} (h1 : L.all (fun c => isCode c || P c) = true) (h2 : ∀ c ∈ L.filter isCode, P c = true) : L.all P = true := by
  refine List.all_eq_true.mpr fun c hc => ?_
  have h := List.all_eq_true.mp h1 c hc
  rcases Bool.eq_false_or_eq_true (isCode c) with hi | hi
  · exact h2 c (List.mem_filter.mpr ⟨hc, hi⟩)
  · simpa [hi] using h
set_option maxRecDepth 65536 in
theorem w_c0 : (Jvm.Cond.code x code maxLocals ret).before args0 about1 = true := code_word (m := ⟨1, 3⟩) (meth := k1m3) (c := k1c3) (by decide +kernel) rfl rfl rfl (by decide +kernel)
set_option maxRecDepth 65536 in
theorem w_c1 : (Jvm.Cond.code ({ cls := "com/example/annotable/annotable/ComparisonSwappedPinLaw", name := "pick", desc := "(I)Lcom/example/annotable/annotable/PathQuery$Comparison;" } : Jvm.MethodName) method_2_code (2 : Nat) (Option.some (Jvm.ClassFile.FieldType.object "com/example/annotable/annotable/PathQuery$Comparison"))).before args0 about1 = true := code_word (m := ⟨1, 1⟩) (meth := k1m1) (c := k1c1) (by decide +kernel) rfl rfl rfl (by decide +kernel)
set_option maxRecDepth 65536 in
theorem w_c2 : (Jvm.Cond.code ({ cls := "com/example/annotable/annotable/PathQuery$Comparison", name := "swapped", desc := "()Lcom/example/annotable/annotable/PathQuery$Comparison;" } : Jvm.MethodName) prog_16_method_5_code (1 : Nat) (Option.some (Jvm.ClassFile.FieldType.object "com/example/annotable/annotable/PathQuery$Comparison"))).before args0 about1 = true := code_word (m := ⟨6, 0⟩) (meth := k6m0) (c := k6c0) (by decide +kernel) rfl rfl rfl (by decide +kernel)
set_option maxRecDepth 65536 in
theorem w_c3 : (Jvm.Cond.code ({ cls := "java/lang/Enum", name := "ordinal", desc := "()I" } : Jvm.MethodName) jdk_37_method_2_code (1 : Nat) (Option.some Jvm.ClassFile.FieldType.int)).before args0 about1 = true := code_word (m := ⟨5, 0⟩) (meth := k5m0) (c := k5c0) (by decide +kernel) rfl rfl rfl (by decide +kernel)
set_option maxRecDepth 65536 in
theorem w_c4 : (Jvm.Cond.code ({ cls := "com/example/annotable/annotable/ComparisonSwappedPinLaw", name := "holds", desc := "(Lcom/example/annotable/annotable/PathQuery$Comparison;II)Z" } : Jvm.MethodName) method_3_code (3 : Nat) (Option.some Jvm.ClassFile.FieldType.boolean)).before args0 about1 = true := code_word (m := ⟨1, 2⟩) (meth := k1m2) (c := k1c2) (by decide +kernel) rfl rfl rfl (by decide +kernel)
def codes1 : List Jvm.Cond := [Jvm.Cond.code x code maxLocals ret, Jvm.Cond.code ({ cls := "com/example/annotable/annotable/ComparisonSwappedPinLaw", name := "pick", desc := "(I)Lcom/example/annotable/annotable/PathQuery$Comparison;" } : Jvm.MethodName) method_2_code (2 : Nat) (Option.some (Jvm.ClassFile.FieldType.object "com/example/annotable/annotable/PathQuery$Comparison")), Jvm.Cond.code ({ cls := "com/example/annotable/annotable/PathQuery$Comparison", name := "swapped", desc := "()Lcom/example/annotable/annotable/PathQuery$Comparison;" } : Jvm.MethodName) prog_16_method_5_code (1 : Nat) (Option.some (Jvm.ClassFile.FieldType.object "com/example/annotable/annotable/PathQuery$Comparison")), Jvm.Cond.code ({ cls := "java/lang/Enum", name := "ordinal", desc := "()I" } : Jvm.MethodName) jdk_37_method_2_code (1 : Nat) (Option.some Jvm.ClassFile.FieldType.int), Jvm.Cond.code ({ cls := "com/example/annotable/annotable/ComparisonSwappedPinLaw", name := "holds", desc := "(Lcom/example/annotable/annotable/PathQuery$Comparison;II)Z" } : Jvm.MethodName) method_3_code (3 : Nat) (Option.some Jvm.ClassFile.FieldType.boolean)]
set_option maxRecDepth 65536 in
theorem codes_eq : words1.filter isCode = codes1 := rfl
theorem w_codes : ∀ c ∈ words1.filter isCode, c.before args0 about1 = true := by
  rw [codes_eq]
  intro c hc
  simp only [codes1, List.mem_cons, List.not_mem_nil, or_false] at hc
  rcases hc with rfl | rfl | rfl | rfl | rfl
  · exact w_c0
  · exact w_c1
  · exact w_c2
  · exact w_c3
  · exact w_c4
set_option maxRecDepth 65536 in
theorem w_t1 : (words1.take 24).all (fun c => isCode c || c.before args0 about1) = true := by decide +kernel
set_option maxRecDepth 65536 in
theorem w_t2 : (words1.drop 24).all (fun c => isCode c || c.before args0 about1) = true := by decide +kernel
theorem w_tables : (allAtoms (Jvm.Cond.code x code maxLocals ret :: tables_1)).before args0 about1 = true := by
  rw [allAtoms_all]
  show words1.all (fun c => c.before args0 about1) = true
  refine all_split ?_ w_codes
  rw [← List.take_append_drop 24 words1, List.all_append, w_t1, w_t2]
  rfl
set_option maxRecDepth 65536 in
theorem w_case : (Jvm.Cond.and given_1 narrow_1).before args0 about1 = true := by decide +kernel
theorem w_applies : (headSpec (Jvm.Cond.code x code maxLocals ret :: tables_1) room_1).applies x e0.platform about1 = true :=
  (Spec.applies_iff w_frames).mpr ⟨w_running, w_runnable, w_alone, w_named, w_hears, w_ripe, w_room, w_tables⟩
theorem atStart : AtStart classFile x code maxLocals ret World_1 tables_1 room_1 Calls_1 rest_1 Pre_1 launch0 p0 e0 about1 theMethod args0 below0 :=
  ⟨lists_1, trivial, launch0.admits_env _ _ _, launch0.least_env, fairChoices_fair.cas, fairChoices_fair.clock, w_frames, w_args, w_heap, w_applies, trivial, trivial, w_case⟩
end start1
theorem witness_1 : WitnessClaimed_1 := ⟨start1.p0, start1.e0, start1.about1, start1.theMethod, start1.args0, start1.below0, start1.atStart⟩
end Jvm.Pilot.@@N@@
