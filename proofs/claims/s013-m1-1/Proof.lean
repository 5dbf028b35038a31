import JvmDerived
import JvmDerived.Pilot.@@N@@Statement
import JvmDerived.Pilot.@@N@@Code
set_option linter.unusedVariables false
set_option linter.unusedSimpArgs false
@@BLOCK:NumsL.lean.txt@@
namespace Jvm.Pilot.@@N@@
open Jvm Jvm.ClassFile Sem Op Lib Jvm.Free Jvm.Stand Jvm.LawKit Jvm.RoadKit Bundle Jvm.Pilot.@@N@@.Jvm.D
section Own
variable {p : Program} {l : Launch} {e : Env} {R : Room} {s : State} {m : MethodId} {args : Array Value} {below : List Frame} {meth : Method} {c : Code} {T T' : State} {locs : List Loc} {cells slots : Nat} {Z : State} {a0 : Array Value} {h : Heap} {P : State → Prop} {pc q : Nat} {Ls : Array Slot} {S : List Value} {g g' : JFrame}
/-- from this state on the run comes to one of which P holds -/
def Go (p : Program) (e : Env) (below : List Frame) (P : State → Prop) (T : State) (g : JFrame) : Prop := ∃ n, Steps p.tables e below (T.setTop g) n ∧ P n
theorem Go.by_ (k : ∀ t, Steps p.tables e below (T'.setTop g') t → Steps p.tables e below (T.setTop g) t) (h : Go p e below P T' g') : Go p e below P T g := by
  obtain ⟨n, a, b⟩ := h; exact ⟨n, k n a, b⟩
theorem Go.tr (k : Steps p.tables e below (T.setTop g) (T'.setTop g')) (h : Go p e below P T' g') : Go p e below P T g := by
  obtain ⟨n, a, b⟩ := h; exact ⟨n, k.trans a, b⟩
theorem g_join (h : Go p e below P T g) (k : Go p e below P T g → Go p e below P T' g') : Go p e below P T' g' := k h
/-- what the whole body knows of its method -/
def Kt (p : Program) (Z s : State) (m : MethodId) (meth : Method) (c : Code) (y : MethodName) (bytes : ByteArray) (maxL : Nat) (ret : Option FieldType) : Prop :=
  p.tables.exec = Jvm.exec ∧ Z.Warmed39 s.vm ∧ c.code = bytes ∧ c.maxLocals = maxL ∧ s.vm.findClass y.cls = some m.cls ∧ meth.sig.returnType = ret ∧ meth.locks = false ∧ meth.name = y.name ∧ s.methodNamed? y = some m
variable {y : MethodName} {bytes : ByteArray} {maxL : Nat} {ret : Option FieldType}
theorem Kt.x (K : Kt p Z s m meth c y bytes maxL ret) : p.tables.exec = Jvm.exec := K.1
theorem Kt.z (K : Kt p Z s m meth c y bytes maxL ret) : Z.Warmed39 s.vm := K.2.1
theorem Kt.ml (K : Kt p Z s m meth c y bytes maxL ret) : c.maxLocals = maxL := K.2.2.2.1
theorem Kt.own (K : Kt p Z s m meth c y bytes maxL ret) : s.vm.findClass y.cls = some m.cls := K.2.2.2.2.1
theorem Kt.rt (K : Kt p Z s m meth c y bytes maxL ret) : meth.sig.returnType = ret := K.2.2.2.2.2.1
theorem Kt.lk (K : Kt p Z s m meth c y bytes maxL ret) : meth.locks = false := K.2.2.2.2.2.2.1
theorem Kt.nm (K : Kt p Z s m meth c y bytes maxL ret) : meth.name = y.name := K.2.2.2.2.2.2.2.1
theorem Kt.named (K : Kt p Z s m meth c y bytes maxL ret) : s.methodNamed? y = some m := K.2.2.2.2.2.2.2.2
theorem Kt.d (K : Kt p Z s m meth c y bytes maxL ret) {r : Except DecodeError (Instr × Nat)} (h : decode bytes pc = r) : decode c.code pc = r := by rw [K.2.2.1]; exact h
/-- the end of a body -/
def Done (s : State) (below : List Frame) (Q : Option Value → Heap → List Loc → Prop) (kc ks : Nat) (n : State) : Prop :=
  ∃ o, n.status = .running ∧ Ended n below o ∧ ∃ v L, o = .returned v ∧ Q v n.heap L ∧ FrameEnd s o n L kc ks
/-- a body's contract -/
def Mt (l : Launch) (Z : State) (y : MethodName) (bytes : ByteArray) (maxL : Nat) (ret : Option FieldType) (ws : List Jvm.Cond) (rm : Room) (as' : Array Value) (h0 : Heap) (Q : Option Value → Heap → List Loc → Prop) : Prop :=
  MetFree l y (head1 (Jvm.Cond.code y bytes maxL ret :: ws) rm) (fun a U => a = as' ∧ Z.Warmed39 U.vm ∧ U.heap = h0) (fun _ _ _ _ _ => True) (fun _ U o U' => ∃ v L, o = .returned v ∧ Q v U'.heap L ∧ FrameEnd U o U' L rm.cells rm.slots)
theorem g_body {ws : List Jvm.Cond} {rm : Room} {as' : Array Value} {h0 : Heap} {Q : Option Value → Heap → List Loc → Prop} (hpl : plainFor y = true)
    (H : ∀ (p : Program) (e : Env) (s : State) (m : MethodId) (below : List Frame) (meth : Method) (c : Code) (T : State), Kt p Z s m meth c y bytes maxL ret → Stand p l e rm s m as' below meth c T [] 0 0 → T.heap = h0 → Go p e below (Done s below Q rm.cells rm.slots) T (entryFrame m as' maxL)) :
    Mt l Z y bytes maxL ret ws rm as' h0 Q := by
  refine MetFree.of_bodySF hpl hisR ?_
  intro p e s m args below meth c s₁ Bd hml0 hP hK
  obtain ⟨rfl, hZ, hh⟩ := hP
  obtain ⟨n, a, o, b1, b2, b3⟩ := H p e s m below meth c s₁ ⟨Bd.exec, hZ, Bd.bytes, hml0, findClass_of_methodNamed Bd.named, Bd.returns, BodyLoose.notSynchronized Bd, (name_of_methodNamed Bd.named Bd.method).1, Bd.named⟩ (Stand.of_body Bd) (by rw [← hh, Bd.state]; rfl)
  exact ⟨n, o, a, b1, b2, b3⟩
variable {Q : Option Value → Heap → List Loc → Prop} {kc ks : Nat}
theorem g_entry (q : g = g') (h : Go p e below P T g') : Go p e below P T g := q ▸ h
/-! returns -/
theorem g_ret (X : Stand p l e R s m args below meth c T locs cells slots) (K : Kt p Z s m meth c y bytes maxL none) (hd : decode bytes pc = .ok (.return_, 1)) (hc : cells ≤ kc) (hs : slots ≤ ks) (hQ : Q none T.heap locs) : Go p e below (Done s below Q kc ks) T (mkF m pc Ls []) := by
  obtain ⟨fs, hr, hrun, hended, hW, hsame⟩ := X.leave (v := none) (fun _ => rfl) K.lk
  exact ⟨_, X.returnOut K.x K.rt (K.d hd) hr, _, hrun, hended, _, _, rfl, hQ, ⟨_, rfl⟩, hW, hsame.mono hc hs⟩
theorem g_iret (X : Stand p l e R s m args below meth c T locs cells slots) (K : Kt p Z s m meth c y bytes maxL (some .int)) {z : Int32} (hd : decode bytes pc = .ok (.ireturn, 1)) (hc : cells ≤ kc) (hs : slots ≤ ks) (hQ : Q (some (.int z)) T.heap locs) : Go p e below (Done s below Q kc ks) T (mkF m pc Ls (.int z :: S)) := by
  obtain ⟨fs, hr, hrun, hended, hW, hsame⟩ := X.leave (v := some (.int z)) (fun h => by rw [K.rt] at h; cases h) K.lk
  exact ⟨_, retOut X K.x K.rt rfl (Or.inl ⟨rfl, Or.inl rfl, z, rfl⟩) (K.d hd) hr, _, hrun, hended, _, _, rfl, hQ, ⟨_, rfl⟩, hW, hsame.mono hc hs⟩
theorem g_nret {t : FieldType} (X : Stand p l e R s m args below meth c T locs cells slots) (K : Kt p Z s m meth c y bytes maxL (some t)) (ht : t = .boolean ∨ t = .byte ∨ t = .char ∨ t = .short) {z z' : Int32} (hn : nar t z = z') (hd : decode bytes pc = .ok (.ireturn, 1)) (hc : cells ≤ kc) (hs : slots ≤ ks) (hQ : Q (some (.int z')) T.heap locs) : Go p e below (Done s below Q kc ks) T (mkF m pc Ls (.int z :: S)) := by
  subst hn
  obtain ⟨fs, hr, hrun, hended, hW, hsame⟩ := X.leave (v := some (.int (nar t z))) (fun h => by rw [K.rt] at h; cases h) K.lk
  exact ⟨_, retN X K.x K.rt ht (K.d hd) hr, _, hrun, hended, _, _, rfl, hQ, ⟨_, rfl⟩, hW, hsame.mono hc hs⟩
theorem g_lret (X : Stand p l e R s m args below meth c T locs cells slots) (K : Kt p Z s m meth c y bytes maxL (some .long)) {z : Int64} (hd : decode bytes pc = .ok (.lreturn, 1)) (hc : cells ≤ kc) (hs : slots ≤ ks) (hQ : Q (some (.long z)) T.heap locs) : Go p e below (Done s below Q kc ks) T (mkF m pc Ls (.long z :: S)) := by
  obtain ⟨fs, hr, hrun, hended, hW, hsame⟩ := X.leave (v := some (.long z)) (fun h => by rw [K.rt] at h; cases h) K.lk
  exact ⟨_, retOut X K.x K.rt rfl (Or.inr (Or.inl ⟨rfl, rfl, z, rfl⟩)) (K.d hd) hr, _, hrun, hended, _, _, rfl, hQ, ⟨_, rfl⟩, hW, hsame.mono hc hs⟩
theorem g_aret {t : FieldType} {w : Value} (X : Stand p l e R s m args below meth c T locs cells slots) (K : Kt p Z s m meth c y bytes maxL (some t)) (ht : t.isReference = true) (hw : w.isRef = true) (hn : narrow t w = w) (hd : decode bytes pc = .ok (.areturn, 1)) (hc : cells ≤ kc) (hs : slots ≤ ks) (hQ : Q (some w) T.heap locs) : Go p e below (Done s below Q kc ks) T (mkF m pc Ls (w :: S)) := by
  obtain ⟨fs, hr, hrun, hended, hW, hsame⟩ := X.leave (v := some w) (fun h => by rw [K.rt] at h; cases h) K.lk
  exact ⟨_, retOut X K.x K.rt hn (Or.inr (Or.inr (Or.inr (Or.inr ⟨rfl, ht, hw⟩)))) (K.d hd) hr, _, hrun, hended, _, _, rfl, hQ, ⟨_, rfl⟩, hW, hsame.mono hc hs⟩
/-! plain steps -/
section Plain
theorem g_iloadN (X : Stand p l e R s m args below meth c T locs cells slots) (K : Kt p Z s m meth c y bytes maxL ret) {k : Fin 4} {v : Int32} (hd : decode bytes pc = .ok (.iload_n k, 1)) (hl : Ls[k.val]? = some (.val (.int v))) (hq : pc + 1 = q) (h : Go p e below P T (mkF m q Ls (.int v :: S))) : Go p e below P T (mkF m pc Ls S) := by
  subst hq; exact Go.by_ (fun t k => XS.iloadN X.here K.x rfl (K.d hd) hl k) h
theorem g_iload (X : Stand p l e R s m args below meth c T locs cells slots) (K : Kt p Z s m meth c y bytes maxL ret) {k : Nat} {v : Int32} (hd : decode bytes pc = .ok (.iload k, 2)) (hl : Ls[k]? = some (.val (.int v))) (hq : pc + 2 = q) (h : Go p e below P T (mkF m q Ls (.int v :: S))) : Go p e below P T (mkF m pc Ls S) := by
  subst hq; exact Go.by_ (fun t k => XS.iload X.here K.x rfl (K.d hd) hl k) h
theorem g_lloadN (X : Stand p l e R s m args below meth c T locs cells slots) (K : Kt p Z s m meth c y bytes maxL ret) {k : Fin 4} {v : Int64} (hd : decode bytes pc = .ok (.lload_n k, 1)) (hl : Ls[k.val]? = some (.val (.long v))) (hq : pc + 1 = q) (h : Go p e below P T (mkF m q Ls (.long v :: S))) : Go p e below P T (mkF m pc Ls S) := by
  subst hq; exact Go.by_ (fun t k => XS.lloadN X.here K.x rfl (K.d hd) hl k) h
theorem g_lload (X : Stand p l e R s m args below meth c T locs cells slots) (K : Kt p Z s m meth c y bytes maxL ret) {k : Nat} {v : Int64} (hd : decode bytes pc = .ok (.lload k, 2)) (hl : Ls[k]? = some (.val (.long v))) (hq : pc + 2 = q) (h : Go p e below P T (mkF m q Ls (.long v :: S))) : Go p e below P T (mkF m pc Ls S) := by
  subst hq; exact Go.by_ (fun t k => XS.lload X.here K.x rfl (K.d hd) hl k) h
theorem g_aloadN (X : Stand p l e R s m args below meth c T locs cells slots) (K : Kt p Z s m meth c y bytes maxL ret) {k : Fin 4} {v : Value} (hd : decode bytes pc = .ok (.aload_n k, 1)) (hl : Ls[k.val]? = some (.val v)) (hv : v.isRef = true) (hq : pc + 1 = q) (h : Go p e below P T (mkF m q Ls (v :: S))) : Go p e below P T (mkF m pc Ls S) := by
  subst hq; exact Go.by_ (fun t k => XS.aloadN X.here K.x rfl (K.d hd) hl hv k) h
theorem g_aload (X : Stand p l e R s m args below meth c T locs cells slots) (K : Kt p Z s m meth c y bytes maxL ret) {k : Nat} {v : Value} (hd : decode bytes pc = .ok (.aload k, 2)) (hl : Ls[k]? = some (.val v)) (hv : v.isRef = true) (hq : pc + 2 = q) (h : Go p e below P T (mkF m q Ls (v :: S))) : Go p e below P T (mkF m pc Ls S) := by
  subst hq; exact Go.by_ (fun t k => XS.aload X.here K.x rfl (K.d hd) hl hv k) h
theorem g_istoreN (X : Stand p l e R s m args below meth c T locs cells slots) (K : Kt p Z s m meth c y bytes maxL ret) {k : Fin 4} {v : Int32} {L' : Array Slot} (hd : decode bytes pc = .ok (.istore_n k, 1)) (hl : storeLocals Ls k.val (.int v) = some L') (hq : pc + 1 = q) (h : Go p e below P T (mkF m q L' S)) : Go p e below P T (mkF m pc Ls (.int v :: S)) := by
  subst hq; exact Go.by_ (fun t k => XS.istoreN X.here K.x rfl (K.d hd) rfl hl k) h
theorem g_istore (X : Stand p l e R s m args below meth c T locs cells slots) (K : Kt p Z s m meth c y bytes maxL ret) {k : Nat} {v : Int32} {L' : Array Slot} (hd : decode bytes pc = .ok (.istore k, 2)) (hl : storeLocals Ls k (.int v) = some L') (hq : pc + 2 = q) (h : Go p e below P T (mkF m q L' S)) : Go p e below P T (mkF m pc Ls (.int v :: S)) := by
  subst hq; exact Go.by_ (fun t k => XS.istore X.here K.x rfl (K.d hd) rfl hl k) h
theorem g_lstoreN (X : Stand p l e R s m args below meth c T locs cells slots) (K : Kt p Z s m meth c y bytes maxL ret) {k : Fin 4} {v : Int64} {L' : Array Slot} (hd : decode bytes pc = .ok (.lstore_n k, 1)) (hl : storeLocals Ls k.val (.long v) = some L') (hq : pc + 1 = q) (h : Go p e below P T (mkF m q L' S)) : Go p e below P T (mkF m pc Ls (.long v :: S)) := by
  subst hq; exact Go.by_ (fun t k => XS.lstoreN X.here K.x rfl (K.d hd) rfl hl k) h
theorem g_lstore (X : Stand p l e R s m args below meth c T locs cells slots) (K : Kt p Z s m meth c y bytes maxL ret) {k : Nat} {v : Int64} {L' : Array Slot} (hd : decode bytes pc = .ok (.lstore k, 2)) (hl : storeLocals Ls k (.long v) = some L') (hq : pc + 2 = q) (h : Go p e below P T (mkF m q L' S)) : Go p e below P T (mkF m pc Ls (.long v :: S)) := by
  subst hq; exact Go.by_ (fun t k => XS.lstore X.here K.x rfl (K.d hd) rfl hl k) h
theorem g_astoreN (X : Stand p l e R s m args below meth c T locs cells slots) (K : Kt p Z s m meth c y bytes maxL ret) {k : Fin 4} {v : Value} {L' : Array Slot} (hd : decode bytes pc = .ok (.astore_n k, 1)) (hv : v.isRef = true) (hl : storeLocals Ls k.val v = some L') (hq : pc + 1 = q) (h : Go p e below P T (mkF m q L' S)) : Go p e below P T (mkF m pc Ls (v :: S)) := by
  subst hq; exact Go.by_ (fun t k => XS.astoreN X.here K.x rfl (K.d hd) rfl hv hl k) h
theorem g_astore (X : Stand p l e R s m args below meth c T locs cells slots) (K : Kt p Z s m meth c y bytes maxL ret) {k : Nat} {v : Value} {L' : Array Slot} (hd : decode bytes pc = .ok (.astore k, 2)) (hv : v.isRef = true) (hl : storeLocals Ls k v = some L') (hq : pc + 2 = q) (h : Go p e below P T (mkF m q L' S)) : Go p e below P T (mkF m pc Ls (v :: S)) := by
  subst hq; exact Go.by_ (fun t k => XS.astore X.here K.x rfl (K.d hd) rfl hv hl k) h
theorem g_iconst (X : Stand p l e R s m args below meth c T locs cells slots) (K : Kt p Z s m meth c y bytes maxL ret) {i : Int} {v : Int32} (hd : decode bytes pc = .ok (.iconst i, 1)) (hv : Int32.ofInt i = v) (hq : pc + 1 = q) (h : Go p e below P T (mkF m q Ls (.int v :: S))) : Go p e below P T (mkF m pc Ls S) := by
  subst hq hv; exact Go.by_ (fun t k => XS.iconst X.here K.x rfl (K.d hd) k) h
theorem g_bipush (X : Stand p l e R s m args below meth c T locs cells slots) (K : Kt p Z s m meth c y bytes maxL ret) {i : Int} {v : Int32} (hd : decode bytes pc = .ok (.bipush i, 2)) (hv : (Int8.ofInt i).toInt32 = v) (hq : pc + 2 = q) (h : Go p e below P T (mkF m q Ls (.int v :: S))) : Go p e below P T (mkF m pc Ls S) := by
  subst hq hv; exact Go.by_ (fun t k => XS.bipush X.here K.x rfl (K.d hd) k) h
theorem g_sipush (X : Stand p l e R s m args below meth c T locs cells slots) (K : Kt p Z s m meth c y bytes maxL ret) {i : Int} {v : Int32} (hd : decode bytes pc = .ok (.sipush i, 3)) (hv : (Int16.ofInt i).toInt32 = v) (hq : pc + 3 = q) (h : Go p e below P T (mkF m q Ls (.int v :: S))) : Go p e below P T (mkF m pc Ls S) := by
  subst hq hv; exact Go.by_ (fun t k => XS.sipush X.here K.x rfl (K.d hd) k) h
theorem g_null (X : Stand p l e R s m args below meth c T locs cells slots) (K : Kt p Z s m meth c y bytes maxL ret) (hd : decode bytes pc = .ok (.aconst_null, 1)) (hq : pc + 1 = q) (h : Go p e below P T (mkF m q Ls (.null :: S))) : Go p e below P T (mkF m pc Ls S) := by
  subst hq; exact Go.by_ (fun t k => XS.aconstNull X.here K.x rfl (K.d hd) k) h
theorem g_iadd (X : Stand p l e R s m args below meth c T locs cells slots) (K : Kt p Z s m meth c y bytes maxL ret) {x y z : Int32} (hd : decode bytes pc = .ok (.iadd, 1)) (hz : x + y = z) (hq : pc + 1 = q) (h : Go p e below P T (mkF m q Ls (.int z :: S))) : Go p e below P T (mkF m pc Ls (.int y :: .int x :: S)) := by
  subst hq hz; exact Go.by_ (fun t k => XS.iadd X.here K.x rfl (K.d hd) rfl k) h
theorem g_isub (X : Stand p l e R s m args below meth c T locs cells slots) (K : Kt p Z s m meth c y bytes maxL ret) {x y z : Int32} (hd : decode bytes pc = .ok (.isub, 1)) (hz : x - y = z) (hq : pc + 1 = q) (h : Go p e below P T (mkF m q Ls (.int z :: S))) : Go p e below P T (mkF m pc Ls (.int y :: .int x :: S)) := by
  subst hq hz; exact Go.by_ (fun t k => XS.isub X.here K.x rfl (K.d hd) rfl k) h
theorem g_imul (X : Stand p l e R s m args below meth c T locs cells slots) (K : Kt p Z s m meth c y bytes maxL ret) {x y z : Int32} (hd : decode bytes pc = .ok (.imul, 1)) (hz : x * y = z) (hq : pc + 1 = q) (h : Go p e below P T (mkF m q Ls (.int z :: S))) : Go p e below P T (mkF m pc Ls (.int y :: .int x :: S)) := by
  subst hq hz; exact Go.by_ (fun t k => XS.imul X.here K.x rfl (K.d hd) rfl k) h
theorem g_iand (X : Stand p l e R s m args below meth c T locs cells slots) (K : Kt p Z s m meth c y bytes maxL ret) {x y z : Int32} (hd : decode bytes pc = .ok (.iand, 1)) (hz : x &&& y = z) (hq : pc + 1 = q) (h : Go p e below P T (mkF m q Ls (.int z :: S))) : Go p e below P T (mkF m pc Ls (.int y :: .int x :: S)) := by
  subst hq hz; exact Go.by_ (fun t k => XS.iand X.here K.x rfl (K.d hd) rfl k) h
theorem g_ior (X : Stand p l e R s m args below meth c T locs cells slots) (K : Kt p Z s m meth c y bytes maxL ret) {x y z : Int32} (hd : decode bytes pc = .ok (.ior, 1)) (hz : x ||| y = z) (hq : pc + 1 = q) (h : Go p e below P T (mkF m q Ls (.int z :: S))) : Go p e below P T (mkF m pc Ls (.int y :: .int x :: S)) := by
  subst hq hz; exact Go.by_ (fun t k => XS.ior X.here K.x rfl (K.d hd) rfl k) h
theorem g_ixor (X : Stand p l e R s m args below meth c T locs cells slots) (K : Kt p Z s m meth c y bytes maxL ret) {x y z : Int32} (hd : decode bytes pc = .ok (.ixor, 1)) (hz : x ^^^ y = z) (hq : pc + 1 = q) (h : Go p e below P T (mkF m q Ls (.int z :: S))) : Go p e below P T (mkF m pc Ls (.int y :: .int x :: S)) := by
  subst hq hz; exact Go.by_ (fun t k => XS.ixor X.here K.x rfl (K.d hd) rfl k) h
theorem g_ishl (X : Stand p l e R s m args below meth c T locs cells slots) (K : Kt p Z s m meth c y bytes maxL ret) {x y z : Int32} (hd : decode bytes pc = .ok (.ishl, 1)) (hz : x <<< (y &&& 31) = z) (hq : pc + 1 = q) (h : Go p e below P T (mkF m q Ls (.int z :: S))) : Go p e below P T (mkF m pc Ls (.int y :: .int x :: S)) := by
  subst hq hz; exact Go.by_ (fun t k => XS.ishl X.here K.x rfl (K.d hd) rfl k) h
theorem g_ishr (X : Stand p l e R s m args below meth c T locs cells slots) (K : Kt p Z s m meth c y bytes maxL ret) {x y z : Int32} (hd : decode bytes pc = .ok (.ishr, 1)) (hz : x >>> (y &&& 31) = z) (hq : pc + 1 = q) (h : Go p e below P T (mkF m q Ls (.int z :: S))) : Go p e below P T (mkF m pc Ls (.int y :: .int x :: S)) := by
  subst hq hz; exact Go.by_ (fun t k => XS.ishr X.here K.x rfl (K.d hd) rfl k) h
theorem g_iushr (X : Stand p l e R s m args below meth c T locs cells slots) (K : Kt p Z s m meth c y bytes maxL ret) {x y z : Int32} (hd : decode bytes pc = .ok (.iushr, 1)) (hz : (x.toUInt32 >>> (y &&& 31).toUInt32).toInt32 = z) (hq : pc + 1 = q) (h : Go p e below P T (mkF m q Ls (.int z :: S))) : Go p e below P T (mkF m pc Ls (.int y :: .int x :: S)) := by
  subst hq hz; exact Go.by_ (fun t k => XS.iushr X.here K.x rfl (K.d hd) rfl k) h
theorem g_irem (X : Stand p l e R s m args below meth c T locs cells slots) (K : Kt p Z s m meth c y bytes maxL ret) {x y z : Int32} (hd : decode bytes pc = .ok (.irem, 1)) (hy : y ≠ 0) (hz : x % y = z) (hq : pc + 1 = q) (h : Go p e below P T (mkF m q Ls (.int z :: S))) : Go p e below P T (mkF m pc Ls (.int y :: .int x :: S)) := by
  subst hq hz; exact Go.by_ (fun t k => iremM X K.x rfl (K.d hd) rfl hy k) h
theorem g_idiv (X : Stand p l e R s m args below meth c T locs cells slots) (K : Kt p Z s m meth c y bytes maxL ret) {x y z : Int32} (hd : decode bytes pc = .ok (.idiv, 1)) (hy : y ≠ 0) (hz : x / y = z) (hq : pc + 1 = q) (h : Go p e below P T (mkF m q Ls (.int z :: S))) : Go p e below P T (mkF m pc Ls (.int y :: .int x :: S)) := by
  subst hq hz; exact Go.by_ (fun t k => XS.idiv X.here K.x rfl (K.d hd) rfl hy k) h
theorem g_ineg (X : Stand p l e R s m args below meth c T locs cells slots) (K : Kt p Z s m meth c y bytes maxL ret) {x z : Int32} (hd : decode bytes pc = .ok (.ineg, 1)) (hz : -x = z) (hq : pc + 1 = q) (h : Go p e below P T (mkF m q Ls (.int z :: S))) : Go p e below P T (mkF m pc Ls (.int x :: S)) := by
  subst hq hz; exact Go.by_ (fun t k => XS.ineg X.here K.x rfl (K.d hd) rfl k) h
theorem g_i2b (X : Stand p l e R s m args below meth c T locs cells slots) (K : Kt p Z s m meth c y bytes maxL ret) {x z : Int32} (hd : decode bytes pc = .ok (.i2b, 1)) (hz : x.toInt8.toInt32 = z) (hq : pc + 1 = q) (h : Go p e below P T (mkF m q Ls (.int z :: S))) : Go p e below P T (mkF m pc Ls (.int x :: S)) := by
  subst hq hz; exact Go.by_ (fun t k => XS.i2b X.here K.x rfl (K.d hd) rfl k) h
theorem g_i2c (X : Stand p l e R s m args below meth c T locs cells slots) (K : Kt p Z s m meth c y bytes maxL ret) {x z : Int32} (hd : decode bytes pc = .ok (.i2c, 1)) (hz : x.toUInt32.toUInt16.toUInt32.toInt32 = z) (hq : pc + 1 = q) (h : Go p e below P T (mkF m q Ls (.int z :: S))) : Go p e below P T (mkF m pc Ls (.int x :: S)) := by
  subst hq hz; exact Go.by_ (fun t k => XS.i2c X.here K.x rfl (K.d hd) rfl k) h
theorem g_i2l (X : Stand p l e R s m args below meth c T locs cells slots) (K : Kt p Z s m meth c y bytes maxL ret) {x : Int32} {z : Int64} (hd : decode bytes pc = .ok (.i2l, 1)) (hz : x.toInt64 = z) (hq : pc + 1 = q) (h : Go p e below P T (mkF m q Ls (.long z :: S))) : Go p e below P T (mkF m pc Ls (.int x :: S)) := by
  subst hq hz; exact Go.by_ (fun t k => XS.i2l X.here K.x rfl (K.d hd) rfl k) h
theorem g_lconst (X : Stand p l e R s m args below meth c T locs cells slots) (K : Kt p Z s m meth c y bytes maxL ret) {k : Fin 2} {v : Int64} (hd : decode bytes pc = .ok (.lconst k, 1)) (hv : Int64.ofInt k.val = v) (hq : pc + 1 = q) (h : Go p e below P T (mkF m q Ls (.long v :: S))) : Go p e below P T (mkF m pc Ls S) := by
  subst hq hv; exact Go.by_ (fun t k => XS.lconst X.here K.x rfl (K.d hd) k) h
theorem g_lsub (X : Stand p l e R s m args below meth c T locs cells slots) (K : Kt p Z s m meth c y bytes maxL ret) {x y z : Int64} (hd : decode bytes pc = .ok (.lsub, 1)) (hz : x - y = z) (hq : pc + 1 = q) (h : Go p e below P T (mkF m q Ls (.long z :: S))) : Go p e below P T (mkF m pc Ls (.long y :: .long x :: S)) := by
  subst hq hz; exact Go.by_ (fun t k => XS.lsub X.here K.x rfl (K.d hd) rfl k) h
theorem g_lshl (X : Stand p l e R s m args below meth c T locs cells slots) (K : Kt p Z s m meth c y bytes maxL ret) {x z : Int64} {y : Int32} (hd : decode bytes pc = .ok (.lshl, 1)) (hz : x <<< (y &&& 0x3f).toInt64 = z) (hq : pc + 1 = q) (h : Go p e below P T (mkF m q Ls (.long z :: S))) : Go p e below P T (mkF m pc Ls (.int y :: .long x :: S)) := by
  subst hq hz; exact Go.by_ (fun t k => XS.lshl X.here K.x rfl (K.d hd) rfl k) h
theorem g_lcmp (X : Stand p l e R s m args below meth c T locs cells slots) (K : Kt p Z s m meth c y bytes maxL ret) {x y : Int64} {z : Int32} (hd : decode bytes pc = .ok (.lcmp, 1)) (hz : lcmpW x y = z) (hq : pc + 1 = q) (h : Go p e below P T (mkF m q Ls (.int z :: S))) : Go p e below P T (mkF m pc Ls (.long y :: .long x :: S)) := by
  subst hq hz; exact Go.by_ (fun t k => XS.lcmp X.here K.x rfl (K.d hd) rfl k) h
theorem g_iinc (X : Stand p l e R s m args below meth c T locs cells slots) (K : Kt p Z s m meth c y bytes maxL ret) {k : Nat} {cst : Int} {x z : Int32} {L' : Array Slot} (hd : decode bytes pc = .ok (.iinc k cst, 3)) (hl : Ls[k]? = some (.val (.int x))) (hz : x + Int32.ofInt cst = z) (hl' : storeLocals Ls k (.int z) = some L') (hq : pc + 3 = q) (h : Go p e below P T (mkF m q L' S)) : Go p e below P T (mkF m pc Ls S) := by
  subst hq hz; exact Go.by_ (fun t k => XS.iinc X.here K.x rfl (K.d hd) hl hl' k) h
theorem g_dup (X : Stand p l e R s m args below meth c T locs cells slots) (K : Kt p Z s m meth c y bytes maxL ret) {x : Value} (hd : decode bytes pc = .ok (.dup, 1)) (hc : x.category = 1) (hq : pc + 1 = q) (h : Go p e below P T (mkF m q Ls (x :: x :: S))) : Go p e below P T (mkF m pc Ls (x :: S)) := by
  subst hq; exact Go.by_ (fun t k => XS.dup X.here K.x rfl (K.d hd) rfl hc k) h
theorem g_dupX1 (X : Stand p l e R s m args below meth c T locs cells slots) (K : Kt p Z s m meth c y bytes maxL ret) {x y : Value} (hd : decode bytes pc = .ok (.dup_x1, 1)) (hc : x.category = 1) (hc' : y.category = 1) (hq : pc + 1 = q) (h : Go p e below P T (mkF m q Ls (x :: y :: x :: S))) : Go p e below P T (mkF m pc Ls (x :: y :: S)) := by
  subst hq; exact Go.by_ (fun t k => XS.dupX1 X.here K.x rfl (K.d hd) rfl hc hc' k) h
theorem g_dup2 (X : Stand p l e R s m args below meth c T locs cells slots) (K : Kt p Z s m meth c y bytes maxL ret) {x y : Value} (hd : decode bytes pc = .ok (.dup2, 1)) (hc : x.category = 1) (hc' : y.category = 1) (hq : pc + 1 = q) (h : Go p e below P T (mkF m q Ls (x :: y :: x :: y :: S))) : Go p e below P T (mkF m pc Ls (x :: y :: S)) := by
  subst hq; exact Go.by_ (fun t k => XT.dup2 X.here K.x rfl (K.d hd) rfl hc hc' k) h
theorem g_pop (X : Stand p l e R s m args below meth c T locs cells slots) (K : Kt p Z s m meth c y bytes maxL ret) {x : Value} (hd : decode bytes pc = .ok (.pop, 1)) (hc : x.category = 1) (hq : pc + 1 = q) (h : Go p e below P T (mkF m q Ls S)) : Go p e below P T (mkF m pc Ls (x :: S)) := by
  subst hq; exact Go.by_ (fun t k => XS.pop X.here K.x rfl (K.d hd) rfl hc k) h
theorem g_goto (X : Stand p l e R s m args below meth c T locs cells slots) (K : Kt p Z s m meth c y bytes maxL ret) {o : Int} (hd : decode bytes pc = .ok (.goto o, 3)) (ho : 0 ≤ (pc : Int) + o) (hq : ((pc : Int) + o).toNat = q) (h : Go p e below P T (mkF m q Ls S)) : Go p e below P T (mkF m pc Ls S) :=
  Go.by_ (fun t k => XS.goto X.here K.x rfl rfl (K.d hd) ho hq k) h
theorem g_ifY (X : Stand p l e R s m args below meth c T locs cells slots) (K : Kt p Z s m meth c y bytes maxL ret) {cd : ClassFile.Cond} {x : Int32} {o : Int} (hd : decode bytes pc = .ok (.ifCond cd o, 3)) (hc : if_icmp.holds cd x 0 = true) (ho : 0 ≤ (pc : Int) + o) (hq : ((pc : Int) + o).toNat = q) (h : Go p e below P T (mkF m q Ls S)) : Go p e below P T (mkF m pc Ls (.int x :: S)) :=
  Go.by_ (fun t k => XS.ifYes X.here K.x rfl rfl (K.d hd) rfl ((if0 _ _).trans hc) ho hq k) h
theorem g_ifN (X : Stand p l e R s m args below meth c T locs cells slots) (K : Kt p Z s m meth c y bytes maxL ret) {cd : ClassFile.Cond} {x : Int32} {o : Int} (hd : decode bytes pc = .ok (.ifCond cd o, 3)) (hc : if_icmp.holds cd x 0 = false) (hq : pc + 3 = q) (h : Go p e below P T (mkF m q Ls S)) : Go p e below P T (mkF m pc Ls (.int x :: S)) := by
  subst hq; exact Go.by_ (fun t k => XS.ifNo X.here K.x rfl (K.d hd) rfl ((if0 _ _).trans hc) k) h
theorem g_icY (X : Stand p l e R s m args below meth c T locs cells slots) (K : Kt p Z s m meth c y bytes maxL ret) {cd : ClassFile.Cond} {x y : Int32} {o : Int} (hd : decode bytes pc = .ok (.if_icmp cd o, 3)) (hc : if_icmp.holds cd x y = true) (ho : 0 ≤ (pc : Int) + o) (hq : ((pc : Int) + o).toNat = q) (h : Go p e below P T (mkF m q Ls S)) : Go p e below P T (mkF m pc Ls (.int y :: .int x :: S)) :=
  Go.by_ (fun t k => XS.icmpYes X.here K.x rfl rfl (K.d hd) rfl hc ho hq k) h
theorem g_icN (X : Stand p l e R s m args below meth c T locs cells slots) (K : Kt p Z s m meth c y bytes maxL ret) {cd : ClassFile.Cond} {x y : Int32} {o : Int} (hd : decode bytes pc = .ok (.if_icmp cd o, 3)) (hc : if_icmp.holds cd x y = false) (hq : pc + 3 = q) (h : Go p e below P T (mkF m q Ls S)) : Go p e below P T (mkF m pc Ls (.int y :: .int x :: S)) := by
  subst hq; exact Go.by_ (fun t k => XS.icmpNo X.here K.x rfl (K.d hd) rfl hc k) h
theorem g_ac (X : Stand p l e R s m args below meth c T locs cells slots) (K : Kt p Z s m meth c y bytes maxL ret) {cd : ACond} {x y : Value} {o : Int} {same : Bool} (hd : decode bytes pc = .ok (.if_acmp cd o, 3)) (h1 : x.isRef = true) (h2 : y.isRef = true) (hs : decide (x = y) = same) (ho : 0 ≤ (pc : Int) + o) (hq : q = if acV cd same = true then ((pc : Int) + o).toNat else pc + 3) (h : Go p e below P T (mkF m q Ls S)) : Go p e below P T (mkF m pc Ls (y :: x :: S)) :=
  Go.by_ (fun t k => acmp X K.x rfl h1 h2 rfl (K.d hd) rfl hs ho hq k) h
theorem g_nullY (X : Stand p l e R s m args below meth c T locs cells slots) (K : Kt p Z s m meth c y bytes maxL ret) {o : Int} (hd : decode bytes pc = .ok (.ifnull o, 3)) (ho : 0 ≤ (pc : Int) + o) (hq : ((pc : Int) + o).toNat = q) (h : Go p e below P T (mkF m q Ls S)) : Go p e below P T (mkF m pc Ls (.null :: S)) :=
  Go.by_ (fun t k => XS.ifnullYes X.here K.x rfl rfl (K.d hd) rfl ho hq k) h
theorem g_nullN (X : Stand p l e R s m args below meth c T locs cells slots) (K : Kt p Z s m meth c y bytes maxL ret) {o : Int} {b : Addr} (hd : decode bytes pc = .ok (.ifnull o, 3)) (hq : pc + 3 = q) (h : Go p e below P T (mkF m q Ls S)) : Go p e below P T (mkF m pc Ls (.ref b :: S)) := by
  subst hq; exact Go.by_ (fun t k => XS.ifnullNo X.here K.x rfl (K.d hd) rfl k) h
theorem g_nonnullY (X : Stand p l e R s m args below meth c T locs cells slots) (K : Kt p Z s m meth c y bytes maxL ret) {o : Int} {b : Addr} (hd : decode bytes pc = .ok (.ifnonnull o, 3)) (ho : 0 ≤ (pc : Int) + o) (hq : ((pc : Int) + o).toNat = q) (h : Go p e below P T (mkF m q Ls S)) : Go p e below P T (mkF m pc Ls (.ref b :: S)) :=
  Go.by_ (fun t k => XS.ifnonnullYes X.here K.x rfl rfl (K.d hd) rfl ho hq k) h
theorem g_nonnullN (X : Stand p l e R s m args below meth c T locs cells slots) (K : Kt p Z s m meth c y bytes maxL ret) {o : Int} (hd : decode bytes pc = .ok (.ifnonnull o, 3)) (hq : pc + 3 = q) (h : Go p e below P T (mkF m q Ls S)) : Go p e below P T (mkF m pc Ls (.null :: S)) := by
  subst hq; exact Go.by_ (fun t k => XS.ifnonnullNo X.here K.x rfl (K.d hd) rfl k) h
theorem g_ldc (X : Stand p l e R s m args below meth c T locs cells slots) (K : Kt p Z s m meth c y bytes maxL ret) {index : Nat} {v : Int32} (w : (Jvm.Cond.constant y.cls index v).before a0 Z = true) (hd : decode bytes pc = .ok (.ldc index, 2)) (hq : pc + 2 = q) (h : Go p e below P T (mkF m q Ls (.int v :: S))) : Go p e below P T (mkF m pc Ls S) := by
  subst hq; exact Go.by_ (fun t k => X.ldcInt K.x K.own (mvT K.z w) (g := mkF m pc Ls S) rfl (K.d hd) _ k) h
theorem g_ldc2 (X : Stand p l e R s m args below meth c T locs cells slots) (K : Kt p Z s m meth c y bytes maxL ret) {index : Nat} {v : Int64} (w : (Jvm.Cond.constantLong y.cls index v).before a0 Z = true) (hd : decode bytes pc = .ok (.ldc2_w index, 3)) (hq : pc + 3 = q) (h : Go p e below P T (mkF m q Ls (.long v :: S))) : Go p e below P T (mkF m pc Ls S) := by
  subst hq; exact Go.by_ (fun t k => X.ldc2Long K.x K.own (mvT K.z w) (g := mkF m pc Ls S) rfl (K.d hd) _ k) h
theorem g_tswIn (X : Stand p l e R s m args below meth c T locs cells slots) (K : Kt p Z s m meth c y bytes maxL ret) {dflt low high : Int} {offs : Array Int} {len : Nat} {o : Int} {i : Int32} (hd : decode bytes pc = .ok (.tableswitch dflt low high offs, len)) (hin : ¬ (i.toInt < low ∨ i.toInt > high)) (hoff : offs[(i.toInt - low).toNat]? = some o) (ho : 0 ≤ (pc : Int) + o) (hq : ((pc : Int) + o).toNat = q) (h : Go p e below P T (mkF m q Ls S)) : Go p e below P T (mkF m pc Ls (.int i :: S)) :=
  Go.by_ (fun t k => XS.tswIn X.here K.x rfl rfl (K.d hd) rfl hin hoff ho hq k) h
theorem g_tswOut (X : Stand p l e R s m args below meth c T locs cells slots) (K : Kt p Z s m meth c y bytes maxL ret) {dflt low high : Int} {offs : Array Int} {len : Nat} {i : Int32} (hd : decode bytes pc = .ok (.tableswitch dflt low high offs, len)) (hout : i.toInt < low ∨ i.toInt > high) (ho : 0 ≤ (pc : Int) + dflt) (hq : ((pc : Int) + dflt).toNat = q) (h : Go p e below P T (mkF m q Ls S)) : Go p e below P T (mkF m pc Ls (.int i :: S)) :=
  Go.by_ (fun t k => XS.tswOut X.here K.x rfl rfl (K.d hd) rfl hout ho hq k) h
theorem g_dupX2 (X : Stand p l e R s m args below meth c T locs cells slots) (K : Kt p Z s m meth c y bytes maxL ret) {x y1 z : Value} (hd : decode bytes pc = .ok (.dup_x2, 1)) (hc : x.category = 1) (hc1 : y1.category = 1) (hc2 : z.category = 1) (hq : pc + 1 = q) (h : Go p e below P T (mkF m q Ls (x :: y1 :: z :: x :: S))) : Go p e below P T (mkF m pc Ls (x :: y1 :: z :: S)) := by
  subst hq
  refine Go.by_ (fun t k => ?_) h
  have hx := K.x
  have hd' := K.d hd
  jvm_step X.here [X.here.top, hx, hd', hc, hc1, hc2]
  exact k
end Plain
/-! steps that look at the heap -/
section Heap
theorem g_gets {index : Nat} {C n d : String} {v : Value} (X : Stand p l e R s m args below meth c T locs cells slots) (K : Kt p Z s m meth c y bytes maxL ret) (w : (Jvm.Cond.fieldLink y.cls index C n d).before a0 Z = true) (eT : T.heap = h) (F : Sta Z h C n d v) (hd : decode bytes pc = .ok (.getstatic index, 3)) (hq : pc + 3 = q)
    (k : ∀ T', Stand p l e R s m args below meth c T' locs cells slots → T'.heap = h → Go p e below P T' (mkF m q Ls (v :: S))) : Go p e below P T (mkF m pc Ls S) := by
  subst hq
  obtain ⟨T1, X1, e1, st⟩ := getS2 X K.x K.z (host := "") K.own (Or.inl w) Via.refl eT F (g := mkF m pc Ls S) rfl (K.d hd)
  exact Go.by_ st (k T1 X1 e1)
theorem g_getf {index : Nat} {C O n d : String} {a : Addr} {v : Value} (X : Stand p l e R s m args below meth c T locs cells slots) (K : Kt p Z s m meth c y bytes maxL ret) (w : (Jvm.Cond.fieldLink y.cls index C n d).before a0 Z = true) (via : Via Z C O n d) (eT : T.heap = h) (F : Fld Z h a O n d v) (hd : decode bytes pc = .ok (.getfield index, 3)) (hq : pc + 3 = q)
    (k : ∀ T', Stand p l e R s m args below meth c T' locs cells slots → T'.heap = h → Go p e below P T' (mkF m q Ls (v :: S))) : Go p e below P T (mkF m pc Ls (.ref a :: S)) := by
  subst hq
  obtain ⟨T1, X1, e1, st⟩ := getF X K.x K.z K.own (host := "") (Or.inl w) via eT F (g := mkF m pc Ls (.ref a :: S)) rfl rfl (K.d hd)
  exact Go.by_ st (k T1 X1 e1)
theorem g_putf {index kk : Nat} {C O n d Cl : String} {a : Addr} {v old : Value} {ty : FieldType} (X : Stand p l e R s m args below meth c T locs cells slots) (K : Kt p Z s m meth c y bytes maxL ret) (w : (Jvm.Cond.fieldLink y.cls index C n d).before a0 Z = true) (via : Via Z C O n d) (eT : T.heap = h) (F : Fld Z h a O n d old) (E : Exa Z h a Cl) (L : (Jvm.Cond.lays Cl O n d).before a0 Z = true ∨ ((Jvm.Cond.laysFinal Cl O n d).before a0 Z = true ∧ y.cls = O ∧ y.name = "<init>")) (wi : (Jvm.Cond.instantiable Cl kk).before a0 Z = true)
    (hty : parseFieldDescriptor d = some ty) (hn : narrow ty v = v) (hf : fits ty v = true) (hd : decode bytes pc = .ok (.putfield index, 3)) (hq : pc + 3 = q)
    (k : ∀ T' h', Stand p l e R s m args below meth c T' (locs ++ [⟨a, Jvm.RoadKit.slotOf Z O n d⟩]) cells slots → T'.heap = h' → Wr h h' a (Jvm.RoadKit.slotOf Z O n d) v → Fld Z h' a O n d v → Go p e below P T' (mkF m q Ls S)) : Go p e below P T (mkF m pc Ls (v :: .ref a :: S)) := by
  subst hq
  obtain ⟨T1, h1, X1, e1, W1, st⟩ := putF X K.x K.z K.own (host := "") (Or.inl w) via eT F E (L.imp id fun q => ⟨q.1, q.2.1, K.nm.trans q.2.2⟩) wi hty hn hf (g := mkF m pc Ls (v :: .ref a :: S)) rfl rfl (K.d hd)
  exact Go.by_ st (k T1 h1 X1 e1 W1 (F.same W1))
theorem g_new {index n : Nat} {C : String} (X : Stand p l e R s m args below meth c T locs cells slots) (K : Kt p Z s m meth c y bytes maxL ret) (w : (Jvm.Cond.classLink y.cls index C).before a0 Z = true) (wi : (Jvm.Cond.instantiable C n).before a0 Z = true) (wz : (Jvm.Cond.initialized C).before a0 Z = true) (eT : T.heap = h) (hd : decode bytes pc = .ok (.new index, 3)) (hc : cells + 1 ≤ R.cells) (hl : slots + n ≤ R.slots) (hq : pc + 3 = q)
    (k : ∀ (T' : State) (h' : Heap) (a : Addr), Stand p l e R s m args below meth c T' locs (cells + 1) (slots + n) → T'.heap = h' → Ext h h' → h.size = a → Exa Z h' a C → (∀ {O nm d : String} {ty : FieldType}, Laid Z a0 C O nm d → parseFieldDescriptor d = some ty → Fld Z h' a O nm d (defaultValue ty)) → Go p e below P T' (mkF m q Ls (.ref a :: S))) : Go p e below P T (mkF m pc Ls S) := by
  subst hq
  obtain ⟨T1, h1, X1, e1, E1, A1, D1, -, st⟩ := newO X K.x K.z K.own w wi wz eT (g := mkF m pc Ls S) rfl (K.d hd) hc hl
  exact Go.by_ st (k T1 h1 _ X1 e1 E1 rfl A1 D1)
theorem g_init {index : Nat} {a : Addr} {W : Nat} (X : Stand p l e R s m args below meth c T locs cells slots) (K : Kt p Z s m meth c y bytes maxL ret) (w1 : (Jvm.Cond.methodLink y.cls index Lib.objectInit).before a0 Z = true) (w2 : (Jvm.Cond.instanceMethod Lib.objectInit).before a0 Z = true) (w3 : (Jvm.Cond.code Lib.objectInit ⟨#[0xb1]⟩ 1 none).before a0 Z = true) (eT : T.heap = h) (hsz : Ls.size = maxL) (hd : decode bytes pc = .ok (.invokespecial index, 3)) (hf : 1 ≤ R.frames) (hW : (S.map fun v => v.category).sum ≤ W) (hl : W + 12 ≤ R.locals) (hq : pc + 3 = q)
    (k : ∀ T', Stand p l e R s m args below meth c T' locs cells slots → T'.heap = h → Go p e below P T' (mkF m q Ls S)) : Go p e below P T (mkF m pc Ls (.ref a :: S)) := by
  subst hq
  obtain ⟨T1, X1, e1, st⟩ := initO X K.x K.z K.own w1 w2 w3 eT (g := mkF m pc Ls (.ref a :: S)) rfl (by rw [K.ml]; exact hsz) rfl (K.d hd) hf (W := W) (by show 2 * 0 + _ ≤ _; omega) hl
  exact Go.by_ st (k T1 X1 e1)
theorem g_castN {index : Nat} (X : Stand p l e R s m args below meth c T locs cells slots) (K : Kt p Z s m meth c y bytes maxL ret) (hd : decode bytes pc = .ok (.checkcast index, 3)) (hq : pc + 3 = q) (k : Go p e below P T (mkF m q Ls (.null :: S))) : Go p e below P T (mkF m pc Ls (.null :: S)) := by
  subst hq
  exact Go.by_ (fun t k => X.checkcastNull K.x (g := mkF m pc Ls (.null :: S)) rfl rfl (K.d hd) _ k) k
theorem g_cast {index : Nat} {C : String} {a : Addr} (X : Stand p l e R s m args below meth c T locs cells slots) (K : Kt p Z s m meth c y bytes maxL ret) (w : (Jvm.Cond.classLink y.cls index C).before a0 Z = true) (eT : T.heap = h) (F : Ins Z h a C true) (hd : decode bytes pc = .ok (.checkcast index, 3)) (hq : pc + 3 = q)
    (k : ∀ T', Stand p l e R s m args below meth c T' locs cells slots → T'.heap = h → Go p e below P T' (mkF m q Ls (.ref a :: S))) : Go p e below P T (mkF m pc Ls (.ref a :: S)) := by
  subst hq
  obtain ⟨T1, X1, e1, st⟩ := castY X K.x K.z K.own w eT F (g := mkF m pc Ls (.ref a :: S)) rfl rfl (K.d hd)
  exact Go.by_ st (k T1 X1 e1)
theorem g_lambda {index : Nat} {σ : Lambda.Shape} {W : Nat} (X : Stand p l e R s m args below meth c T locs cells slots) (K : Kt p Z s m meth c y bytes maxL ret) (w : (Jvm.Cond.lambdaSite y pc index σ).before a0 Z = true) (hσ : σ.captured = []) (hsz : Ls.size = maxL) (hd : decode bytes pc = .ok (.invokedynamic index, 5)) (hW : (S.map fun v => v.category).sum ≤ W) (hl : W + 3072 ≤ R.locals) (hq : pc + 5 = q)
    (k : ∀ a : Addr, Go p e below P T (mkF m q Ls (.ref a :: S))) : Go p e below P T (mkF m pc Ls S) := by
  subst hq
  obtain ⟨cK, one, hat⟩ := Cond.lambdaSite_spec w
  obtain ⟨m', kS, cfS, i0, p0, lk, hm', hkS, hcfS, -, -, hfind, hmade, hcan, hlk⟩ := State.lambdaAt?_spec hat
  have hn : Z.methodNamed? y = some m := by
    have q := State.methodNamed?_setVm (s := Z) K.z.alike y
    have q2 : (Z.setVm s.vm).methodNamed? y = s.methodNamed? y := rfl
    rw [← q, q2]; exact K.named
  cases hn.symm.trans hm'
  rcases hlk with ⟨a, cell, rfl, -⟩ | ⟨-, -, h⟩
  · obtain ⟨k', hk', he⟩ := K.z.alike.2.2 _ _ hkS
    refine Go.by_ (fun t kk => X.lambdaConstant K.x (g := mkF m pc Ls S) rfl (by rw [K.ml]; exact hsz) (K.d hd) hk' (by rw [he]; exact hfind) (by rw [X.admits.platform]; show 2 * 0 + (S.map fun v => v.category).sum + 3072 ≤ _; omega) kk) (k a)
  · exact absurd hσ h
/-! arrays -/
theorem g_len {a : Addr} {kA : ClassId} {ty : FieldType} {n : Int32} {vs : List Value} {dv : Value} (X : Stand p l e R s m args below meth c T locs cells slots) (K : Kt p Z s m meth c y bytes maxL ret) (eT : T.heap = h) (A : Arv Z h a kA ty n vs dv) (hd : decode bytes pc = .ok (.arraylength, 1)) (hq : pc + 1 = q) (k : Go p e below P T (mkF m q Ls (.int n :: S))) : Go p e below P T (mkF m pc Ls (.ref a :: S)) := by
  subst hq
  obtain ⟨cl, Ar, -, Sz, Nn, -, -⟩ := A
  refine Go.by_ (fun t k => X.arraylength K.x (by rw [eT]; exact Ar.1) (State.isArrayOf_alike K.z.alike Ar.2.1) (g := mkF m pc Ls (.ref a :: S)) rfl rfl (K.d hd) _ k) ?_
  rw [len_of Sz Nn]; exact k
theorem arv_at {a : Addr} {kA : ClassId} {ty : FieldType} {n j : Int32} {vs : List Value} {dv v : Value} (A : Arv Z h a kA ty n vs dv) (hj : ¬ j < 0 ∧ j < n) (hv : vs.getD j.toNatClampNeg dv = v) :
    ∃ cl, Arr Z h a cl ty ∧ ¬ (j < 0 ∨ cl.slots.size ≤ j.toNatClampNeg) ∧ cl.slots[j.toNatClampNeg]? = some v := by
  obtain ⟨cl, Ar, -, Sz, Nn, H, -⟩ := A
  have hin := inb_of Sz hj
  exact ⟨cl, Ar, hin, H.at hin hv⟩
theorem g_iald {a : Addr} {kA : ClassId} {n j : Int32} {vs : List Value} {dv v : Value} (X : Stand p l e R s m args below meth c T locs cells slots) (K : Kt p Z s m meth c y bytes maxL ret) (eT : T.heap = h) (A : Arv Z h a kA .int n vs dv) (hj : ¬ j < 0 ∧ j < n) (hv : vs.getD j.toNatClampNeg dv = v) (hd : decode bytes pc = .ok (.iaload, 1)) (hq : pc + 1 = q) (k : Go p e below P T (mkF m q Ls (v :: S))) : Go p e below P T (mkF m pc Ls (.int j :: .ref a :: S)) := by
  subst hq
  obtain ⟨cl, Ar, hin, hat⟩ := arv_at A hj hv
  exact Go.by_ (fun t k => X.iaload K.x (by rw [eT]; exact Ar.1) (State.isArrayOf_alike K.z.alike Ar.2.1) Ar.2.2 hin hat (g := mkF m pc Ls (.int j :: .ref a :: S)) rfl rfl (K.d hd) _ k) k
theorem g_bald {a : Addr} {kA : ClassId} {n j : Int32} {vs : List Value} {dv v : Value} (X : Stand p l e R s m args below meth c T locs cells slots) (K : Kt p Z s m meth c y bytes maxL ret) (eT : T.heap = h) (A : Arv Z h a kA .byte n vs dv) (hj : ¬ j < 0 ∧ j < n) (hv : vs.getD j.toNatClampNeg dv = v) (hd : decode bytes pc = .ok (.baload, 1)) (hq : pc + 1 = q) (k : Go p e below P T (mkF m q Ls (v :: S))) : Go p e below P T (mkF m pc Ls (.int j :: .ref a :: S)) := by
  subst hq
  obtain ⟨cl, Ar, hin, hat⟩ := arv_at A hj hv
  exact Go.by_ (fun t k => X.baloadBytes K.x (by rw [eT]; exact Ar.1) (State.isArrayOf_alike K.z.alike Ar.2.1) Ar.2.2 hin hat (g := mkF m pc Ls (.int j :: .ref a :: S)) rfl rfl (K.d hd) _ k) k
theorem g_zald {a : Addr} {kA : ClassId} {n j : Int32} {vs : List Value} {dv v : Value} (X : Stand p l e R s m args below meth c T locs cells slots) (K : Kt p Z s m meth c y bytes maxL ret) (eT : T.heap = h) (A : Arv Z h a kA .boolean n vs dv) (hj : ¬ j < 0 ∧ j < n) (hv : vs.getD j.toNatClampNeg dv = v) (hd : decode bytes pc = .ok (.baload, 1)) (hq : pc + 1 = q) (k : Go p e below P T (mkF m q Ls (v :: S))) : Go p e below P T (mkF m pc Ls (.int j :: .ref a :: S)) := by
  subst hq
  obtain ⟨cl, Ar, hin, hat⟩ := arv_at A hj hv
  exact Go.by_ (fun t k => X.baloadBooleans K.x (by rw [eT]; exact Ar.1) (State.isArrayOf_alike K.z.alike Ar.2.1) Ar.2.2 hin hat (g := mkF m pc Ls (.int j :: .ref a :: S)) rfl rfl (K.d hd) _ k) k
theorem g_aald {a : Addr} {kA : ClassId} {ty : FieldType} {n j : Int32} {vs : List Value} {dv v : Value} (X : Stand p l e R s m args below meth c T locs cells slots) (K : Kt p Z s m meth c y bytes maxL ret) (eT : T.heap = h) (A : Arv Z h a kA ty n vs dv) (hty : ty.isReference = true) (hj : ¬ j < 0 ∧ j < n) (hv : vs.getD j.toNatClampNeg dv = v) (hd : decode bytes pc = .ok (.aaload, 1)) (hq : pc + 1 = q) (k : Go p e below P T (mkF m q Ls (v :: S))) : Go p e below P T (mkF m pc Ls (.int j :: .ref a :: S)) := by
  subst hq
  obtain ⟨cl, Ar, hin, hat⟩ := arv_at A hj hv
  exact Go.by_ (fun t k => X.aaload K.x (by rw [eT]; exact Ar.1) (State.isArrayOf_alike K.z.alike Ar.2.1) hty Ar.2.2 hin hat (g := mkF m pc Ls (.int j :: .ref a :: S)) rfl rfl (K.d hd) _ k) k
theorem g_newp {aty : ArrayType} {n : Int32} {cap : Nat} {ty : FieldType} {vs : List Value} (X : Stand p l e R s m args below meth c T locs cells slots) (K : Kt p Z s m meth c y bytes maxL ret) (w : (Jvm.Cond.arrayClass ty).before a0 Z = true) (hty : newarray.typeOf aty = ty) (eT : T.heap = h) (hd : decode bytes pc = .ok (.newarray aty, 2)) (hn : ¬ n < 0) (hcap : n.toNatClampNeg ≤ cap) (hvs : List.replicate cap (defaultValue ty) = vs) (hb : cap * 8 ≤ 536870912) (hc : cells + 1 ≤ R.cells) (hl : slots + cap ≤ R.slots) (hq : pc + 2 = q)
    (k : ∀ (T' : State) (h' : Heap) (a : Addr) (kA : ClassId), Stand p l e R s m args below meth c T' locs (cells + 1) (slots + cap) → T'.heap = h' → Ext h h' → h.size = a → Arv Z h' a kA ty n vs (defaultValue ty) → Go p e below P T' (mkF m q Ls (.ref a :: S))) : Go p e below P T (mkF m pc Ls (.int n :: S)) := by
  subst hq hty hvs
  obtain ⟨T1, h1, kA, X1, e1, E1, A1, st⟩ := newP X K.x K.z w eT (g := mkF m pc Ls (.int n :: S)) rfl (K.d hd) rfl hn hcap hb hc hl
  exact Go.by_ st (k T1 h1 _ kA X1 e1 E1 rfl ((Arv.new A1 hn).pad (pad_rep [] _ cap)))
theorem g_newr {index : Nat} {C : String} {n : Int32} {cap : Nat} {vs : List Value} (X : Stand p l e R s m args below meth c T locs cells slots) (K : Kt p Z s m meth c y bytes maxL ret) (w : (Jvm.Cond.classLink y.cls index C).before a0 Z = true) (w2 : (Jvm.Cond.arrayOver (.object C)).before a0 Z = true) (eT : T.heap = h) (hd : decode bytes pc = .ok (.anewarray index, 3)) (hn : ¬ n < 0) (hcap : n.toNatClampNeg ≤ cap) (hvs : List.replicate cap Value.null = vs) (hb : cap * 8 ≤ 536870912) (hc : cells + 1 ≤ R.cells) (hl : slots + cap ≤ R.slots) (hq : pc + 3 = q)
    (k : ∀ (T' : State) (h' : Heap) (a : Addr) (kA : ClassId), Stand p l e R s m args below meth c T' locs (cells + 1) (slots + cap) → T'.heap = h' → Ext h h' → h.size = a → Arv Z h' a kA (.object C) n vs .null → Ovr Z kA C → Go p e below P T' (mkF m q Ls (.ref a :: S))) : Go p e below P T (mkF m pc Ls (.int n :: S)) := by
  subst hq hvs
  obtain ⟨T1, h1, kA, X1, e1, E1, A1, O1, st⟩ := newR X K.x K.z K.own w w2 eT (g := mkF m pc Ls (.int n :: S)) rfl (K.d hd) rfl hn hcap hb hc hl
  exact Go.by_ st (k T1 h1 _ kA X1 e1 E1 rfl ((Arv.new A1 hn).pad (pad_rep [] _ cap)) O1)
theorem g_grid {index : Nat} {C ad : String} {ty : FieldType} {n k : Int32} {N cap : Nat} {vs : List Value} (X : Stand p l e R s m args below meth c T locs cells slots) (K : Kt p Z s m meth c y bytes maxL ret) (hC : (FieldType.array ty).toString = C) (had : "[" ++ C = ad) (w1 : (Jvm.Cond.classLink y.cls index ad).before a0 Z = true) (w2 : (Jvm.Cond.arrayOver (.array ty)).before a0 Z = true) (w3 : (Jvm.Cond.arrayClass ty).before a0 Z = true) (eT : T.heap = h) (hd : decode bytes pc = .ok (.multianewarray index 2, 4)) (hn : ¬ n < 0) (hk : ¬ k < 0) (hN : n.toNatClampNeg = N) (hcap : k.toNatClampNeg ≤ cap) (hvs : List.replicate cap (defaultValue ty) = vs) (hb : cap * 8 ≤ 536870912) (hb1 : N ≤ 1000) (hdf : fits ty (defaultValue ty) = true) (hdd : (defaultValue ty).isDefault = true) (hc : cells + (1 + N) ≤ R.cells) (hl : slots + (N + N * cap) ≤ R.slots) (hq : pc + 4 = q)
    (kk : ∀ (T' : State) (h' : Heap) (a : Addr) (kA kI : ClassId), Stand p l e R s m args below meth c T' locs (cells + (1 + N)) (slots + (N + N * cap)) → T'.heap = h' → Ext h h' → h.size = a → Arv Z h' a kA (.array ty) n ((List.range N).map fun j => Value.ref (a + 1 + j)) .null → (∀ j : Nat, j < N → Arv Z h' (a + 1 + j) kI ty k vs (defaultValue ty)) → Go p e below P T' (mkF m q Ls (.ref a :: S))) : Go p e below P T (mkF m pc Ls (.int k :: .int n :: S)) := by
  subst hq hvs
  obtain ⟨T1, h1, kA, kI, X1, e1, E1, A1, -, -, I1, st⟩ := gridM X K.x K.z K.own hC had w1 w2 w3 eT (g := mkF m pc Ls (.int k :: .int n :: S)) rfl (K.d hd) rfl hn hk hN rfl hcap hb hb1 hdf hdd hc hl
  refine Go.by_ st (kk T1 h1 _ kA kI X1 e1 E1 rfl ?_ fun j hj => ?_)
  · simpa [List.map_map, Function.comp_def] using A1
  · exact (Arv.new (I1 j _ (by simp [hj])).1 hk).pad (pad_rep [] _ cap)
theorem arv_set {a : Addr} {kA : ClassId} {ty : FieldType} {n j : Int32} {vs vs' : List Value} {dv v : Value} {h' : Heap} (A : Arv Z h a kA ty n vs dv) (hv : fits ty v = true) (W : Wr h h' a j.toNatClampNeg v) (hl : j.toNatClampNeg < vs.length) (hs : vs.set j.toNatClampNeg v = vs') : Arv Z h' a kA ty n vs' dv := by
  subst hs
  obtain ⟨cl, Ar, q1, Sz, Nn, H, G⟩ := A
  exact Arv.set Ar q1 Sz Nn H G hv W _ rfl hl
theorem g_iast {a : Addr} {kA : ClassId} {n j x : Int32} {vs vs' : List Value} {dv : Value} (X : Stand p l e R s m args below meth c T locs cells slots) (K : Kt p Z s m meth c y bytes maxL ret) (eT : T.heap = h) (A : Arv Z h a kA .int n vs dv) (hj : ¬ j < 0 ∧ j < n) (hl : j.toNatClampNeg < vs.length) (hs : vs.set j.toNatClampNeg (.int x) = vs') (hd : decode bytes pc = .ok (.iastore, 1)) (hq : pc + 1 = q)
    (k : ∀ T' h', Stand p l e R s m args below meth c T' (locs ++ [⟨a, j.toNatClampNeg⟩]) cells slots → T'.heap = h' → Wr h h' a j.toNatClampNeg (.int x) → Arv Z h' a kA .int n vs' dv → Go p e below P T' (mkF m q Ls S)) : Go p e below P T (mkF m pc Ls (.int x :: .int j :: .ref a :: S)) := by
  subst hq
  obtain ⟨cl, Ar, hin, -⟩ := arv_at A hj rfl
  obtain ⟨T1, h1, X1, e1, W1, st⟩ := stI X K.x K.z eT Ar hin (g := mkF m pc Ls (.int x :: .int j :: .ref a :: S)) rfl rfl (K.d hd)
  exact Go.by_ st (k T1 h1 X1 e1 W1 (arv_set A rfl W1 hl hs))
theorem g_last {a : Addr} {kA : ClassId} {n j : Int32} {x : Int64} {vs vs' : List Value} {dv : Value} (X : Stand p l e R s m args below meth c T locs cells slots) (K : Kt p Z s m meth c y bytes maxL ret) (eT : T.heap = h) (A : Arv Z h a kA .long n vs dv) (hj : ¬ j < 0 ∧ j < n) (hl : j.toNatClampNeg < vs.length) (hs : vs.set j.toNatClampNeg (.long x) = vs') (hd : decode bytes pc = .ok (.lastore, 1)) (hq : pc + 1 = q)
    (k : ∀ T' h', Stand p l e R s m args below meth c T' (locs ++ [⟨a, j.toNatClampNeg⟩]) cells slots → T'.heap = h' → Wr h h' a j.toNatClampNeg (.long x) → Arv Z h' a kA .long n vs' dv → Go p e below P T' (mkF m q Ls S)) : Go p e below P T (mkF m pc Ls (.long x :: .int j :: .ref a :: S)) := by
  subst hq
  obtain ⟨cl, Ar, hin, -⟩ := arv_at A hj rfl
  obtain ⟨T1, h1, X1, e1, W1, st⟩ := stJ X K.x K.z eT Ar hin (g := mkF m pc Ls (.long x :: .int j :: .ref a :: S)) rfl rfl (K.d hd)
  exact Go.by_ st (k T1 h1 X1 e1 W1 (arv_set A rfl W1 hl hs))
theorem g_bast {a : Addr} {kA : ClassId} {n j x z : Int32} {vs vs' : List Value} {dv : Value} (X : Stand p l e R s m args below meth c T locs cells slots) (K : Kt p Z s m meth c y bytes maxL ret) (eT : T.heap = h) (A : Arv Z h a kA .byte n vs dv) (hj : ¬ j < 0 ∧ j < n) (hl : j.toNatClampNeg < vs.length) (hz : nar .byte x = z) (hs : vs.set j.toNatClampNeg (.int z) = vs') (hd : decode bytes pc = .ok (.bastore, 1)) (hq : pc + 1 = q)
    (k : ∀ T' h', Stand p l e R s m args below meth c T' (locs ++ [⟨a, j.toNatClampNeg⟩]) cells slots → T'.heap = h' → Wr h h' a j.toNatClampNeg (.int z) → Arv Z h' a kA .byte n vs' dv → Go p e below P T' (mkF m q Ls S)) : Go p e below P T (mkF m pc Ls (.int x :: .int j :: .ref a :: S)) := by
  subst hq hz
  obtain ⟨cl, Ar, hin, -⟩ := arv_at A hj rfl
  obtain ⟨T1, h1, X1, e1, W1, st⟩ := stB X K.x K.z eT Ar hin (g := mkF m pc Ls (.int x :: .int j :: .ref a :: S)) rfl rfl (K.d hd)
  exact Go.by_ st (k T1 h1 X1 e1 W1 (arv_set A (fits_nar_byte _) W1 hl hs))
theorem g_zast {a : Addr} {kA : ClassId} {n j x z : Int32} {vs vs' : List Value} {dv : Value} (X : Stand p l e R s m args below meth c T locs cells slots) (K : Kt p Z s m meth c y bytes maxL ret) (eT : T.heap = h) (A : Arv Z h a kA .boolean n vs dv) (hj : ¬ j < 0 ∧ j < n) (hl : j.toNatClampNeg < vs.length) (hz : nar .boolean x = z) (hs : vs.set j.toNatClampNeg (.int z) = vs') (hd : decode bytes pc = .ok (.bastore, 1)) (hq : pc + 1 = q)
    (k : ∀ T' h', Stand p l e R s m args below meth c T' (locs ++ [⟨a, j.toNatClampNeg⟩]) cells slots → T'.heap = h' → Wr h h' a j.toNatClampNeg (.int z) → Arv Z h' a kA .boolean n vs' dv → Go p e below P T' (mkF m q Ls S)) : Go p e below P T (mkF m pc Ls (.int x :: .int j :: .ref a :: S)) := by
  subst hq hz
  obtain ⟨cl, Ar, hin, -⟩ := arv_at A hj rfl
  obtain ⟨T1, h1, X1, e1, W1, st⟩ := stZ X K.x K.z eT Ar hin (g := mkF m pc Ls (.int x :: .int j :: .ref a :: S)) rfl rfl (K.d hd)
  exact Go.by_ st (k T1 h1 X1 e1 W1 (arv_set A (fits_nar_bool _) W1 hl hs))
theorem g_aast {a : Addr} {kA : ClassId} {C : String} {n j : Int32} {v : Value} {vs vs' : List Value} {dv : Value} (X : Stand p l e R s m args below meth c T locs cells slots) (K : Kt p Z s m meth c y bytes maxL ret) (eT : T.heap = h) (A : Arv Z h a kA (.object C) n vs dv) (hv : v = .null ∨ ∃ b, v = .ref b ∧ Ovr Z kA C ∧ Ins Z h b C true) (hj : ¬ j < 0 ∧ j < n) (hl : j.toNatClampNeg < vs.length) (hs : vs.set j.toNatClampNeg v = vs') (hd : decode bytes pc = .ok (.aastore, 1)) (hq : pc + 1 = q)
    (k : ∀ T' h', Stand p l e R s m args below meth c T' (locs ++ [⟨a, j.toNatClampNeg⟩]) cells slots → T'.heap = h' → Wr h h' a j.toNatClampNeg v → Arv Z h' a kA (.object C) n vs' dv → Go p e below P T' (mkF m q Ls S)) : Go p e below P T (mkF m pc Ls (v :: .int j :: .ref a :: S)) := by
  subst hq
  have hfit : fits (.object C) v = true := by rcases hv with rfl | ⟨b, rfl, -⟩ <;> rfl
  obtain ⟨cl, Ar, q1, Sz, -⟩ := id A
  have hin := inb_of Sz hj
  have F : Sto Z h a v := by
    rcases hv with rfl | ⟨b, rfl, O, I⟩
    · exact Or.inl rfl
    · exact Sto.ofV Ar q1 O I
  obtain ⟨T1, h1, X1, e1, W1, st⟩ := stR X K.x K.z eT Ar hin rfl F (g := mkF m pc Ls (v :: .int j :: .ref a :: S)) rfl rfl (K.d hd)
  exact Go.by_ st (k T1 h1 X1 e1 W1 (arv_set A hfit W1 hl hs))
/-! calls -/
variable {y' : MethodName} {bytes' : ByteArray} {maxL' : Nat} {ret' : Option FieldType} {rm : Room} {as' : Array Value} {Q' : Option Value → Heap → List Loc → Prop} {index : Nat} {argsL rest : List Value} {W : Nat}
theorem g_static (X : Stand p l e R s m args below meth c T locs cells slots) (K : Kt p Z s m meth c y bytes maxL ret) (w1 : (Jvm.Cond.methodLink y.cls index y').before a0 Z = true) (w2 : (Jvm.Cond.static y').before a0 Z = true) (w3 : (Jvm.Cond.initialized y'.cls).before a0 Z = true) (w4 : (Jvm.Cond.code y' bytes' maxL' ret').before a0 Z = true) (hy : y'.cls ≠ "java/lang/invoke/MethodHandle" ∧ y'.cls ≠ "java/lang/invoke/VarHandle")
    (hM : Mt l Z y' bytes' maxL' ret' [] rm as' h Q') (eT : T.heap = h) (hsz : Ls.size = maxL) (hlen : ∀ sig, parseMethodDescriptor y'.desc = some sig → argsL.length = sig.parameters.length) (hst : S = argsL.reverse ++ rest) (has : argsL.toArray = as') (hW : (rest.map fun v => v.category).sum ≤ W) (hd : decode bytes pc = .ok (.invokestatic index, 3))
    (hf : rm.frames + 1 ≤ R.frames) (hl : W + (maxL' + 11) + rm.locals ≤ R.locals) (hc : cells + rm.cells ≤ R.cells) (hs : slots + rm.slots ≤ R.slots) (hq : pc + 3 = q)
    (k : ∀ T' v L, Stand p l e R s m args below meth c T' (locs ++ L) (cells + rm.cells) (slots + rm.slots) → Q' v T'.heap L → Go p e below P T' (mkF m q Ls (v.toList ++ rest))) : Go p e below P T (mkF m pc Ls S) := by
  subst hq has hst
  obtain ⟨v, _, ⟨T1, L1, k1, n1⟩, -, X1, ⟨Lc, hQ, l1, y1, z1⟩, st⟩ := Jvm.LawKit.callS X K.x (y := y') K.own (mvT K.z w1) (mvT K.z w2) (mvT K.z w3) (mvT K.z w4) hy (backOf (W := W) hM K.z w4 w3 hf hl) (g := mkF m pc Ls (argsL.reverse ++ rest)) rfl (by rw [K.ml]; exact hsz) (argsL := argsL) (rest := rest) hlen rfl (by show 2 * 0 + _ ≤ _; omega) (K.d hd) (fun _ _ => ⟨rfl, eT, hc, hs⟩)
  dsimp only [Pt.U, Pt.locs, Pt.cells, Pt.slots] at X1 l1 y1 z1 st hQ
  subst l1 y1 z1
  exact Go.by_ st (k T1 v Lc X1 hQ)
theorem g_special {a : Addr} (X : Stand p l e R s m args below meth c T locs cells slots) (K : Kt p Z s m meth c y bytes maxL ret) (hy1 : y'.name = "<init>") (w1 : (Jvm.Cond.methodLink y.cls index y').before a0 Z = true) (w2 : (Jvm.Cond.instanceMethod y').before a0 Z = true) (w3 : (Jvm.Cond.initialized y'.cls).before a0 Z = true) (w4 : (Jvm.Cond.code y' bytes' maxL' none).before a0 Z = true) (hy : y'.cls ≠ "java/lang/invoke/MethodHandle" ∧ y'.cls ≠ "java/lang/invoke/VarHandle")
    (hM : Mt l Z y' bytes' maxL' none [] rm as' h Q') (eT : T.heap = h) (hsz : Ls.size = maxL) (hlen : ∀ sig, parseMethodDescriptor y'.desc = some sig → argsL.length = sig.parameters.length) (hst : S = argsL.reverse ++ .ref a :: rest) (has : (Value.ref a :: argsL).toArray = as') (hW : (rest.map fun v => v.category).sum ≤ W) (hd : decode bytes pc = .ok (.invokespecial index, 3))
    (hf : rm.frames + 1 ≤ R.frames) (hl : W + (maxL' + 11) + rm.locals ≤ R.locals) (hc : cells + rm.cells ≤ R.cells) (hs : slots + rm.slots ≤ R.slots) (hq : pc + 3 = q)
    (k : ∀ T' v L, Stand p l e R s m args below meth c T' (locs ++ L) (cells + rm.cells) (slots + rm.slots) → Q' v T'.heap L → Go p e below P T' (mkF m q Ls (v.toList ++ rest))) : Go p e below P T (mkF m pc Ls S) := by
  subst hq has hst
  obtain ⟨v, _, ⟨T1, L1, k1, n1⟩, -, X1, ⟨Lc, hQ, l1, y1, z1⟩, st⟩ := X.specialBack K.x (y := y') hy1 K.own (mvT K.z w1) (mvT K.z w2) (mvT K.z w4) hy (backOf (W := W) hM K.z w4 w3 hf hl) (g := mkF m pc Ls (argsL.reverse ++ .ref a :: rest)) rfl (by rw [K.ml]; exact hsz) (Steps.refl _) (a := a) (argsL := argsL) (rest := rest) hlen rfl (by show 2 * 0 + _ ≤ _; omega) (K.d hd) (fun _ _ => ⟨rfl, eT, hc, hs⟩)
  dsimp only [Pt.U, Pt.locs, Pt.cells, Pt.slots] at X1 l1 y1 z1 st hQ
  subst l1 y1 z1
  exact Go.tr st (k T1 v Lc X1 hQ)
theorem g_virtual {a : Addr} {C : String} {z' : MethodName} (X : Stand p l e R s m args below meth c T locs cells slots) (K : Kt p Z s m meth c y bytes maxL ret) (w1 : (Jvm.Cond.methodLink y.cls index y').before a0 Z = true) (w2 : (Jvm.Cond.declares y').before a0 Z = true) (nf : NotFace s y') (w5 : (Jvm.Cond.selects C y' z').before a0 Z = true) (w6 : (Jvm.Cond.instanceMethod z').before a0 Z = true) (w3 : (Jvm.Cond.initialized z'.cls).before a0 Z = true) (w4 : (Jvm.Cond.code z' bytes' maxL' ret').before a0 Z = true) (hy : y'.cls ≠ "java/lang/invoke/MethodHandle" ∧ y'.cls ≠ "java/lang/invoke/VarHandle")
    (hM : Mt l Z z' bytes' maxL' ret' [] rm as' h Q') (eT : T.heap = h) (E : Exa Z h a C) (hsz : Ls.size = maxL) (hlen : ∀ sig, parseMethodDescriptor y'.desc = some sig → argsL.length = sig.parameters.length) (hst : S = argsL.reverse ++ .ref a :: rest) (has : (Value.ref a :: argsL).toArray = as') (hW : (rest.map fun v => v.category).sum ≤ W) (hd : decode bytes pc = .ok (.invokevirtual index, 3))
    (hf : rm.frames + 1 ≤ R.frames) (hl : W + (maxL' + 11) + rm.locals ≤ R.locals) (hc : cells + rm.cells ≤ R.cells) (hs : slots + rm.slots ≤ R.slots) (hq : pc + 3 = q)
    (k : ∀ T' v L, Stand p l e R s m args below meth c T' (locs ++ L) (cells + rm.cells) (slots + rm.slots) → Q' v T'.heap L → Go p e below P T' (mkF m q Ls (v.toList ++ rest))) : Go p e below P T (mkF m pc Ls S) := by
  subst hq has hst
  obtain ⟨cq, kq, qa, qb, qc⟩ := isOf K.z eT E
  obtain ⟨v, _, ⟨T1, L1, k1, n1⟩, -, X1, ⟨Lc, hQ, l1, y1, z1⟩, st⟩ := X.virtualBack K.x (y := y') (z := z') K.own (mvT K.z w1) (mvT K.z w2) nf (mvT K.z w5) (mvT K.z w6) hy (backOf (W := W) hM K.z w4 w3 hf hl) qa qc (g := mkF m pc Ls (argsL.reverse ++ .ref a :: rest)) rfl (by rw [K.ml]; exact hsz) (Steps.refl _) (argsL := argsL) (rest := rest) hlen rfl (by show 2 * 0 + _ ≤ _; omega) (K.d hd) (fun _ _ => ⟨rfl, eT, hc, hs⟩)
  dsimp only [Pt.U, Pt.locs, Pt.cells, Pt.slots] at X1 l1 y1 z1 st hQ
  subst l1 y1 z1
  exact Go.tr st (k T1 v Lc X1 hQ)
theorem g_virtualUp {a : Addr} {C owner : String} {z' : MethodName} (X : Stand p l e R s m args below meth c T locs cells slots) (K : Kt p Z s m meth c y bytes maxL ret) (w1 : (Jvm.Cond.methodLink y.cls index y').before a0 Z = true) (w0 : (Jvm.Cond.sameMethod y'.cls owner y'.name y'.desc).before a0 Z = true) (w2 : (Jvm.Cond.declares ⟨owner, y'.name, y'.desc⟩).before a0 Z = true) (hy : owner ≠ "java/lang/invoke/MethodHandle" ∧ owner ≠ "java/lang/invoke/VarHandle") (w5 : (Jvm.Cond.selects C y' z').before a0 Z = true) (w6 : (Jvm.Cond.instanceMethod z').before a0 Z = true) (w3 : (Jvm.Cond.initialized z'.cls).before a0 Z = true) (w4 : (Jvm.Cond.code z' bytes' maxL' ret').before a0 Z = true)
    (hM : Mt l Z z' bytes' maxL' ret' [] rm as' h Q') (eT : T.heap = h) (E : Exa Z h a C) (hsz : Ls.size = maxL) (hlen : ∀ sig, parseMethodDescriptor y'.desc = some sig → argsL.length = sig.parameters.length) (hst : S = argsL.reverse ++ .ref a :: rest) (has : (Value.ref a :: argsL).toArray = as') (hW : (rest.map fun v => v.category).sum ≤ W) (hd : decode bytes pc = .ok (.invokevirtual index, 3))
    (hf : rm.frames + 1 ≤ R.frames) (hl : W + (maxL' + 11) + rm.locals ≤ R.locals) (hc : cells + rm.cells ≤ R.cells) (hs : slots + rm.slots ≤ R.slots) (hq : pc + 3 = q)
    (k : ∀ T' v L, Stand p l e R s m args below meth c T' (locs ++ L) (cells + rm.cells) (slots + rm.slots) → Q' v T'.heap L → Go p e below P T' (mkF m q Ls (v.toList ++ rest))) : Go p e below P T (mkF m pc Ls S) := by
  subst hq has hst
  obtain ⟨cq, kq, qa, qb, qc⟩ := isOf K.z eT E
  obtain ⟨v, _, ⟨T1, L1, k1, n1⟩, -, X1, ⟨Lc, hQ, l1, y1, z1⟩, st⟩ := X.virtualBackUp K.x (x := y') (y := z') K.own (mvT K.z w1) (mvT K.z w0) (mvT K.z w2) hy (mvT K.z w5) (mvT K.z w6) (backOf (W := W) hM K.z w4 w3 hf hl) qa qc (g := mkF m pc Ls (argsL.reverse ++ .ref a :: rest)) rfl (by rw [K.ml]; exact hsz) (Steps.refl _) (argsL := argsL) (rest := rest) hlen rfl (by show 2 * 0 + _ ≤ _; omega) (K.d hd) (fun _ _ => ⟨rfl, eT, hc, hs⟩)
  dsimp only [Pt.U, Pt.locs, Pt.cells, Pt.slots] at X1 l1 y1 z1 st hQ
  subst l1 y1 z1
  exact Go.tr st (k T1 v Lc X1 hQ)
theorem g_face {a : Addr} {C : String} {z' : MethodName} {cnt : Nat} (X : Stand p l e R s m args below meth c T locs cells slots) (K : Kt p Z s m meth c y bytes maxL ret) (w1 : (Jvm.Cond.methodLink y.cls index y').before a0 Z = true) (w2 : (Jvm.Cond.declares y').before a0 Z = true) (wf : (Jvm.Cond.interfaceMethod y'.cls y'.cls y'.name y'.desc).before args s = true) (w5 : (Jvm.Cond.selects C y' z').before a0 Z = true) (w6 : (Jvm.Cond.instanceMethod z').before a0 Z = true) (wp : (Jvm.Cond.publicMethod z').before a0 Z = true) (wu : (Jvm.Cond.unhidden C y'.name y'.desc).before a0 Z = true) (wca : (Jvm.Cond.castable C y'.cls).before a0 Z = true) (w3 : (Jvm.Cond.initialized z'.cls).before a0 Z = true) (w4 : (Jvm.Cond.code z' bytes' maxL' ret').before a0 Z = true) (hy : y'.cls ≠ "java/lang/invoke/MethodHandle" ∧ y'.cls ≠ "java/lang/invoke/VarHandle")
    (hM : Mt l Z z' bytes' maxL' ret' [] rm as' h Q') (eT : T.heap = h) (E : Exa Z h a C) (hsz : Ls.size = maxL) (hlen : ∀ sig, parseMethodDescriptor y'.desc = some sig → argsL.length = sig.parameters.length) (hst : S = argsL.reverse ++ .ref a :: rest) (has : (Value.ref a :: argsL).toArray = as') (hW : (rest.map fun v => v.category).sum ≤ W) (hd : decode bytes pc = .ok (.invokeinterface index cnt, 5))
    (hf : rm.frames + 1 ≤ R.frames) (hl : W + (maxL' + 11) + rm.locals ≤ R.locals) (hc : cells + rm.cells ≤ R.cells) (hs : slots + rm.slots ≤ R.slots) (hq : pc + 5 = q)
    (k : ∀ T' v L, Stand p l e R s m args below meth c T' (locs ++ L) (cells + rm.cells) (slots + rm.slots) → Q' v T'.heap L → Go p e below P T' (mkF m q Ls (v.toList ++ rest))) : Go p e below P T (mkF m pc Ls S) := by
  subst hq has hst
  obtain ⟨cq, kq, qa, qb, qc⟩ := isOf K.z eT E
  obtain ⟨v, _, ⟨T1, L1, k1, n1⟩, -, X1, ⟨Lc, hQ, l1, y1, z1⟩, st⟩ := X.interfaceBack K.x (xi := y') (y := z') K.own (mvT K.z w1) (mvT K.z w2) wf (mvT K.z w5) (mvT K.z w6) (mvT K.z wp) (mvT K.z wu) (mvT K.z wca) hy (backOf (W := W) hM K.z w4 w3 hf hl) qa qb qc (g := mkF m pc Ls (argsL.reverse ++ .ref a :: rest)) rfl (by rw [K.ml]; exact hsz) (Steps.refl _) (argsL := argsL) (rest := rest) hlen rfl (by show 2 * 0 + _ ≤ _; omega) (K.d hd) (fun _ _ => ⟨rfl, eT, hc, hs⟩)
  dsimp only [Pt.U, Pt.locs, Pt.cells, Pt.slots] at X1 l1 y1 z1 st hQ
  subst l1 y1 z1
  exact Go.tr st (k T1 v Lc X1 hQ)
theorem nf_self {C : String} (K : Kt p Z s m meth c y bytes maxL ret) (w : (Jvm.Cond.selects C y' y').before a0 Z = true) : NotFace s y' := notFace_of_selects (args := #[]) (mvT K.z w)
end Heap
end Own
section Start
variable {Z : State} {a0 : Array Value} {t u : Jvm.Term} {n : Int32} {a : Addr} {ty : FieldType} {vs : List Value} {dv v : Value}
def adOf (C n d : String) (Z : State) (a0 : Array Value) : Addr := match (Jvm.Term.static C n d).eval a0 Z none [] Z with | some (.ref a) => a | _ => 0
theorem own_ad {C n d : String} (h : ∃ x, (Jvm.Term.static C n d).eval a0 Z none [] Z = some (.ref x)) : (Jvm.Term.static C n d).eval a0 Z none [] Z = some (.ref (adOf C n d Z a0)) := by
  obtain ⟨x, hx⟩ := h; simp only [adOf, hx]
theorem own_eqint (h : (Jvm.Cond.eq t (.int n)).value a0 Z none Z [] = some true) : t.eval a0 Z none [] Z = some (.int n) := by
  obtain ⟨x, y, h1, h2, h3, -⟩ := cmp_v (Or.inl h)
  cases h2
  cases x <;> first | (simp [Kin, Value.isRef] at h3; done) | skip
  rw [h1]
  have q := gotT (Cond.eq_ints h1 rfl) h
  rw [q]
theorem own_eqref (h : (Jvm.Cond.eq t u).value a0 Z none Z [] = some true) (hu : u.eval a0 Z none [] Z = some (.ref a)) : t.eval a0 Z none [] Z = some (.ref a) := by
  obtain ⟨x, y, h1, h2, h3, h4⟩ := cmp_v (Or.inl h)
  cases h2.symm.trans hu
  have hx : x.isRef = true := by cases x <;> first | rfl | exact h3.1 | (simp [Kin] at h3; done)
  have q := gotT (eq_R h1 hu hx rfl) h
  rw [h1, q]
def kaOf (Z : State) (a : Addr) : ClassId := match Z.heap[a]? with | some c => c.cls | none => 0
theorem own_len (h : (Jvm.Term.length t).eval a0 Z none [] Z = some (.int n)) (ht : t.eval a0 Z none [] Z = some (.ref a)) : ∃ cl : Cell, Z.heap[a]? = some cl ∧ cl.slots.size < 2 ^ 31 ∧ cl.slots.size.toInt32 = n := by
  obtain ⟨a', cl, h1, h2, h3⟩ := Term.length_spec h
  cases ht.symm.trans h1
  refine ⟨cl, (State.arrayAt?_spec h2).1, ?_, by cases h3; rfl⟩
  by_cases q : cl.slots.size < 2147483648
  · exact q
  · simp [Term.eval, ht, h2, q] at h
theorem own_arv (hf : Fit Z) (ht : t.eval a0 Z none [] Z = some (.ref a)) (ha : (Jvm.Cond.arrayOf t ty).value a0 Z none Z [] = some true) (hl : (Jvm.Cond.eq (Jvm.Term.length t) (.int n)).value a0 Z none Z [] = some true) (hn : ¬ n < 0) (hv : n.toNatClampNeg = vs.length) (he : ∀ cl : Cell, Z.heap[a]? = some cl → HasL cl 0 vs) : Arv Z Z.heap a (kaOf Z a) ty n vs dv := by
  obtain ⟨cl, A⟩ := Arr.start ht ha
  obtain ⟨cl', h1, h2, h3⟩ := own_len (own_eqint hl) ht
  cases A.1.symm.trans h1
  have e : kaOf Z a = cl.cls := by simp only [kaOf, A.1]
  rw [e]
  exact Arv.start hf A h2 h3 hn hv (he cl A.1)
theorem own_el {j : Int32} {i : Nat} {cl : Cell} (h : (Jvm.Term.elem t (.int j)).eval a0 Z none [] Z = some v) (ht : t.eval a0 Z none [] Z = some (.ref a)) (hc : Z.heap[a]? = some cl) (hi : j.toNatClampNeg = i) : cl.slots[i]? = some v := by
  subst hi; exact (elem_in h ht (Term.int_eval j) hc).2
theorem own_lit {z k : Int32} {i : Int} (h : z.toInt = i) (hk : k.toInt = i) : z = k := Int32.toInt_inj.mp (h.trans hk.symm)
theorem own_max (x : Int32) : 0 ≤ (x &&& 2147483647).toInt := (c_andS x 2147483647).2.2 (by decide)
theorem own_rem (x : Int32) {n : Int32} {k : Int} (hk : n.toInt = k) (h0 : 0 < k) : 0 ≤ ((x &&& 2147483647) % n).toInt ∧ ((x &&& 2147483647) % n).toInt < k := by
  rw [(c_irem (x &&& 2147483647) n k hk).1 (own_max x)]
  exact ⟨Int.emod_nonneg _ (by omega), Int.emod_lt_of_pos _ h0⟩
variable {x k : Int32} {m : Int}
theorem own_ltI (hk : k.toInt = m) (h : x.toInt < m) : x < k := by rw [Int32.lt_iff_toInt_lt, hk]; exact h
theorem own_nltI (hk : k.toInt = m) (h : ¬ x.toInt < m) : ¬ (x < k) := by rw [Int32.lt_iff_toInt_lt, hk]; exact h
theorem own_gtI (hk : k.toInt = m) (h : m < x.toInt) : k < x := by rw [Int32.lt_iff_toInt_lt, hk]; exact h
theorem own_ngtI (hk : k.toInt = m) (h : ¬ m < x.toInt) : ¬ (k < x) := by rw [Int32.lt_iff_toInt_lt, hk]; exact h
theorem own_eqI (hk : k.toInt = m) (h : x.toInt = m) : x = k := own_lit h hk
theorem own_neI (hk : k.toInt = m) (h : x.toInt ≠ m) : ¬ (x = k) := fun q => h (by rw [q]; exact hk)
theorem own_ltE (hk : k.toInt = m) (h : x < k) : x.toInt < m := by rw [Int32.lt_iff_toInt_lt, hk] at h; exact h
theorem own_nltE (hk : k.toInt = m) (h : ¬ (x < k)) : ¬ x.toInt < m := by rw [Int32.lt_iff_toInt_lt, hk] at h; exact h
theorem own_gtE (hk : k.toInt = m) (h : k < x) : m < x.toInt := by rw [Int32.lt_iff_toInt_lt, hk] at h; exact h
theorem own_ngtE (hk : k.toInt = m) (h : ¬ (k < x)) : ¬ m < x.toInt := by rw [Int32.lt_iff_toInt_lt, hk] at h; exact h
theorem own_eqE (hk : k.toInt = m) (h : x = k) : x.toInt = m := by rw [h]; exact hk
theorem own_neE (hk : k.toInt = m) (h : ¬ (x = k)) : x.toInt ≠ m := fun q => h (own_lit q hk)
theorem own_some {a b : Int32} (h : a = b) : some (Value.int a) = some (Value.int b) := by rw [h]
theorem own_if1 {P : Prop} [Decidable P] (h : P) : (1 : Int32) = if P then 1 else 0 := (if_pos h).symm
theorem own_if0 {P : Prop} [Decidable P] (h : ¬ P) : (0 : Int32) = if P then 1 else 0 := (if_neg h).symm
theorem own_nar {P : Prop} [Decidable P] : nar .boolean (if P then (1 : Int32) else 0) = if P then 1 else 0 := by split <;> rfl
end Start
theorem own_idx {j n : Int32} {vs : List Value} (h : ¬ j < 0 ∧ j < n) (hn : n.toNatClampNeg = vs.length) : j.toNatClampNeg < vs.length := by
  rw [← hn]; obtain ⟨h1, h2⟩ := h
  rw [Int32.lt_iff_toInt_lt] at h1 h2
  have : (0 : Int32).toInt = 0 := rfl
  simp only [Int32.toNatClampNeg]; omega
def SlotOK (k n a x v : Int32) : Prop := (k < n → k = n - 1 ∨ (k = a ∧ v = x + (n - 1)) ∨ (¬ k = a ∧ v = x + k)) ∧ (¬ k < n → v = x + k)
theorem slot_at {k n a x v : Int32} (h : SlotOK k n a x v) (h1 : k < n) (h2 : ¬ (k = n - 1)) (h3 : k = a) : v = x + (n - 1) := by
  rcases h.1 h1 with q | ⟨-, q⟩ | ⟨q, -⟩
  · exact absurd q h2
  · exact q
  · exact absurd h3 q
theorem slot_no {k n a x v : Int32} (h : SlotOK k n a x v) (h1 : k < n) (h2 : ¬ (k = n - 1)) (h3 : ¬ (k = a)) : v = x + k := by
  rcases h.1 h1 with q | ⟨q, -⟩ | ⟨-, q⟩
  · exact absurd q h2
  · exact absurd q h3
  · exact q
theorem ok_ge {k n a x v : Int32} (h : ¬ k < n) (e : v = x + k) : SlotOK k n a x v := ⟨fun q => absurd q h, fun _ => e⟩
theorem ok_last {k n a x v : Int32} (h : k < n) (e : k = n - 1) : SlotOK k n a x v := ⟨fun _ => Or.inl e, fun q => absurd h q⟩
theorem ok_at {k n a x v : Int32} (h : k < n) (e : k = a) (e2 : v = x + (n - 1)) : SlotOK k n a x v := ⟨fun _ => Or.inr (Or.inl ⟨e, e2⟩), fun q => absurd h q⟩
theorem ok_no {k n a x v : Int32} (h : k < n) (e : ¬ k = a) (e2 : v = x + k) : SlotOK k n a x v := ⟨fun _ => Or.inr (Or.inr ⟨e, e2⟩), fun q => absurd h q⟩
theorem own_mv (i v : Int32) (h : i = 0 ∨ i = 1 ∨ i = 2) : ([(.int (0 : Int32)), (.int (0 : Int32)), (.int (0 : Int32))].set i.toNatClampNeg (.int v)).getD i.toNatClampNeg (Value.int (0 : Int32)) = .int v := by rcases h with rfl | rfl | rfl <;> rfl
theorem own_mv1 (i v : Int32) (h : i = 0 ∨ i = 1 ∨ i = 2) : ([(.int (0 : Int32)), (.int (0 : Int32)), (.int (0 : Int32))].set i.toNatClampNeg (.int v)).getD ((i + (1 : Int32)) % (3 : Int32)).toNatClampNeg (Value.int (0 : Int32)) = .int (0 : Int32) := by rcases h with rfl | rfl | rfl <;> rfl
theorem own_mv2 (i v : Int32) (h : i = 0 ∨ i = 1 ∨ i = 2) : ([(.int (0 : Int32)), (.int (0 : Int32)), (.int (0 : Int32))].set i.toNatClampNeg (.int v)).getD ((i + (2 : Int32)) % (3 : Int32)).toNatClampNeg (Value.int (0 : Int32)) = .int (0 : Int32) := by rcases h with rfl | rfl | rfl <;> rfl
theorem own_mk2 (x : Int32) : (x &&& (1 : Int32)) = (0 : Int32) ∨ (x &&& (1 : Int32)) = (1 : Int32) := by
  have h : (x &&& (1 : Int32)).toInt = x.toInt % 2 ^ 1 := Jvm.Kit.i32_mask x 1 (k := 1) (by decide) (by decide)
  generalize (x &&& (1 : Int32)) = z at h ⊢
  have q : z.toInt = 0 ∨ z.toInt = 1 := by omega
  rcases q with q | q
  · exact Or.inl (own_lit q (by decide))
  · exact Or.inr ((own_lit q (by decide)))
theorem own_mk4 (x : Int32) : (x &&& (3 : Int32)) = (0 : Int32) ∨ (x &&& (3 : Int32)) = (1 : Int32) ∨ (x &&& (3 : Int32)) = (2 : Int32) ∨ (x &&& (3 : Int32)) = (3 : Int32) := by
  have h : (x &&& (3 : Int32)).toInt = x.toInt % 2 ^ 2 := Jvm.Kit.i32_mask x 3 (k := 2) (by decide) (by decide)
  generalize (x &&& (3 : Int32)) = z at h ⊢
  have q : z.toInt = 0 ∨ z.toInt = 1 ∨ z.toInt = 2 ∨ z.toInt = 3 := by omega
  rcases q with q | q | q | q
  · exact Or.inl (own_lit q (by decide))
  · exact Or.inr (Or.inl (own_lit q (by decide)))
  · exact Or.inr (Or.inr (Or.inl (own_lit q (by decide))))
  · exact Or.inr (Or.inr (Or.inr ((own_lit q (by decide)))))
theorem own_sp3 (x : Int32) : (x &&& (2147483647 : Int32)) % (3 : Int32) = (0 : Int32) ∨ (x &&& (2147483647 : Int32)) % (3 : Int32) = (1 : Int32) ∨ (x &&& (2147483647 : Int32)) % (3 : Int32) = (2 : Int32) := by
  have h := own_rem x (n := (3 : Int32)) (k := 3) (by decide) (by decide)
  generalize (x &&& (2147483647 : Int32)) % (3 : Int32) = z at h ⊢
  have q : z.toInt = 0 ∨ z.toInt = 1 ∨ z.toInt = 2 := by omega
  rcases q with q | q | q
  · exact Or.inl (own_lit q (by decide))
  · exact Or.inr (Or.inl (own_lit q (by decide)))
  · exact Or.inr (Or.inr ((own_lit q (by decide))))
def Hyp (Z : State) (a0 : Array Value) : Prop := (∀ d ∈ tables_1, d.before a0 Z = true) ∧ narrow_1.value a0 Z none Z [] = some true ∧ Fit Z
section Facts
variable {Z : State} {a0 : Array Value}
theorem w0 (H : Hyp Z a0) : (Jvm.Cond.classLink "ludarium/rules/BrutusWalkTakePinLaw" (7 : Nat) "ludarium/rules/BrutusSight").before a0 Z = true := H.1 _ (List.mem_of_getElem? (i := 0) rfl)
theorem w1 (H : Hyp Z a0) : (Jvm.Cond.instantiable "ludarium/rules/BrutusSight" (14 : Nat)).before a0 Z = true := H.1 _ (List.mem_of_getElem? (i := 1) rfl)
theorem w2 (H : Hyp Z a0) : (Jvm.Cond.initialized "ludarium/rules/BrutusSight").before a0 Z = true := H.1 _ (List.mem_of_getElem? (i := 2) rfl)
theorem w3 (H : Hyp Z a0) : (Jvm.Cond.arrayClass Jvm.ClassFile.FieldType.int).before a0 Z = true := H.1 _ (List.mem_of_getElem? (i := 3) rfl)
theorem w4 (H : Hyp Z a0) : (Jvm.Cond.methodLink "ludarium/rules/BrutusWalkTakePinLaw" (9 : Nat) ({ cls := "ludarium/rules/BrutusSight", name := "<init>", desc := "(II[I[I[I)V" } : Jvm.MethodName)).before a0 Z = true := H.1 _ (List.mem_of_getElem? (i := 4) rfl)
theorem w5 (H : Hyp Z a0) : (Jvm.Cond.instanceMethod ({ cls := "ludarium/rules/BrutusSight", name := "<init>", desc := "(II[I[I[I)V" } : Jvm.MethodName)).before a0 Z = true := H.1 _ (List.mem_of_getElem? (i := 5) rfl)
theorem w6 (H : Hyp Z a0) : (Jvm.Cond.code ({ cls := "ludarium/rules/BrutusSight", name := "<init>", desc := "(II[I[I[I)V" } : Jvm.MethodName) prog_50_method_1_code (8 : Nat) (Option.none : Option Jvm.ClassFile.FieldType)).before a0 Z = true := H.1 _ (List.mem_of_getElem? (i := 6) rfl)
theorem w7 (H : Hyp Z a0) : (Jvm.Cond.methodLink "ludarium/rules/BrutusSight" (3 : Nat) ({ cls := "java/lang/Object", name := "<init>", desc := "()V" } : Jvm.MethodName)).before a0 Z = true := H.1 _ (List.mem_of_getElem? (i := 7) rfl)
theorem w8 (H : Hyp Z a0) : (Jvm.Cond.instanceMethod ({ cls := "java/lang/Object", name := "<init>", desc := "()V" } : Jvm.MethodName)).before a0 Z = true := H.1 _ (List.mem_of_getElem? (i := 8) rfl)
theorem w9 (H : Hyp Z a0) : (Jvm.Cond.code ({ cls := "java/lang/Object", name := "<init>", desc := "()V" } : Jvm.MethodName) object_method_1_code (1 : Nat) (Option.none : Option Jvm.ClassFile.FieldType)).before a0 Z = true := H.1 _ (List.mem_of_getElem? (i := 9) rfl)
theorem w10 (H : Hyp Z a0) : (Jvm.Cond.fieldLink "ludarium/rules/BrutusSight" (9 : Nat) "ludarium/rules/BrutusSight" "seat" "I").before a0 Z = true := H.1 _ (List.mem_of_getElem? (i := 10) rfl)
theorem w11 (H : Hyp Z a0) : (Jvm.Cond.laysFinal "ludarium/rules/BrutusSight" "ludarium/rules/BrutusSight" "seat" "I").before a0 Z = true := H.1 _ (List.mem_of_getElem? (i := 11) rfl)
theorem w12 (H : Hyp Z a0) : (Jvm.Cond.fieldLink "ludarium/rules/BrutusSight" (15 : Nat) "ludarium/rules/BrutusSight" "copies" "I").before a0 Z = true := H.1 _ (List.mem_of_getElem? (i := 12) rfl)
theorem w13 (H : Hyp Z a0) : (Jvm.Cond.laysFinal "ludarium/rules/BrutusSight" "ludarium/rules/BrutusSight" "copies" "I").before a0 Z = true := H.1 _ (List.mem_of_getElem? (i := 13) rfl)
theorem w14 (H : Hyp Z a0) : (Jvm.Cond.fieldLink "ludarium/rules/BrutusSight" (18 : Nat) "ludarium/rules/BrutusSight" "dealt" "[I").before a0 Z = true := H.1 _ (List.mem_of_getElem? (i := 14) rfl)
theorem w15 (H : Hyp Z a0) : (Jvm.Cond.laysFinal "ludarium/rules/BrutusSight" "ludarium/rules/BrutusSight" "dealt" "[I").before a0 Z = true := H.1 _ (List.mem_of_getElem? (i := 15) rfl)
theorem w16 (H : Hyp Z a0) : (Jvm.Cond.fieldLink "ludarium/rules/BrutusSight" (22 : Nat) "ludarium/rules/BrutusSight" "hand" "[I").before a0 Z = true := H.1 _ (List.mem_of_getElem? (i := 16) rfl)
theorem w17 (H : Hyp Z a0) : (Jvm.Cond.laysFinal "ludarium/rules/BrutusSight" "ludarium/rules/BrutusSight" "hand" "[I").before a0 Z = true := H.1 _ (List.mem_of_getElem? (i := 17) rfl)
theorem w18 (H : Hyp Z a0) : (Jvm.Cond.fieldLink "ludarium/rules/BrutusSight" (25 : Nat) "ludarium/rules/BrutusSight" "moves" "[I").before a0 Z = true := H.1 _ (List.mem_of_getElem? (i := 18) rfl)
theorem w19 (H : Hyp Z a0) : (Jvm.Cond.laysFinal "ludarium/rules/BrutusSight" "ludarium/rules/BrutusSight" "moves" "[I").before a0 Z = true := H.1 _ (List.mem_of_getElem? (i := 19) rfl)
theorem w20 (H : Hyp Z a0) : (Jvm.Cond.fieldLink "ludarium/rules/BrutusSight" (28 : Nat) "ludarium/rules/BrutusSight" "runStart" "[I").before a0 Z = true := H.1 _ (List.mem_of_getElem? (i := 20) rfl)
theorem w21 (H : Hyp Z a0) : (Jvm.Cond.laysFinal "ludarium/rules/BrutusSight" "ludarium/rules/BrutusSight" "runStart" "[I").before a0 Z = true := H.1 _ (List.mem_of_getElem? (i := 21) rfl)
theorem w22 (H : Hyp Z a0) : (Jvm.Cond.fieldLink "ludarium/rules/BrutusSight" (31 : Nat) "ludarium/rules/BrutusSight" "runEnd" "[I").before a0 Z = true := H.1 _ (List.mem_of_getElem? (i := 22) rfl)
theorem w23 (H : Hyp Z a0) : (Jvm.Cond.laysFinal "ludarium/rules/BrutusSight" "ludarium/rules/BrutusSight" "runEnd" "[I").before a0 Z = true := H.1 _ (List.mem_of_getElem? (i := 23) rfl)
theorem w24 (H : Hyp Z a0) : (Jvm.Cond.methodLink "ludarium/rules/BrutusSight" (34 : Nat) ({ cls := "ludarium/rules/BrutusDeck", name := "runEnd", desc := "([III)I" } : Jvm.MethodName)).before a0 Z = true := H.1 _ (List.mem_of_getElem? (i := 24) rfl)
theorem w25 (H : Hyp Z a0) : (Jvm.Cond.static ({ cls := "ludarium/rules/BrutusDeck", name := "runEnd", desc := "([III)I" } : Jvm.MethodName)).before a0 Z = true := H.1 _ (List.mem_of_getElem? (i := 25) rfl)
theorem w26 (H : Hyp Z a0) : (Jvm.Cond.initialized "ludarium/rules/BrutusDeck").before a0 Z = true := H.1 _ (List.mem_of_getElem? (i := 26) rfl)
theorem w27 (H : Hyp Z a0) : (Jvm.Cond.code ({ cls := "ludarium/rules/BrutusDeck", name := "runEnd", desc := "([III)I" } : Jvm.MethodName) prog_18_method_31_code (5 : Nat) (Option.some Jvm.ClassFile.FieldType.int)).before a0 Z = true := H.1 _ (List.mem_of_getElem? (i := 27) rfl)
theorem w28 (H : Hyp Z a0) : (Jvm.Cond.methodLink "ludarium/rules/BrutusSight" (39 : Nat) ({ cls := "java/util/Arrays", name := "fill", desc := "([IIII)V" } : Jvm.MethodName)).before a0 Z = true := H.1 _ (List.mem_of_getElem? (i := 28) rfl)
theorem w29 (H : Hyp Z a0) : (Jvm.Cond.static ({ cls := "java/util/Arrays", name := "fill", desc := "([IIII)V" } : Jvm.MethodName)).before a0 Z = true := H.1 _ (List.mem_of_getElem? (i := 29) rfl)
theorem w30 (H : Hyp Z a0) : (Jvm.Cond.initialized "java/util/Arrays").before a0 Z = true := H.1 _ (List.mem_of_getElem? (i := 30) rfl)
theorem w31 (H : Hyp Z a0) : (Jvm.Cond.code ({ cls := "java/util/Arrays", name := "fill", desc := "([IIII)V" } : Jvm.MethodName) jdk_65_method_104_code (5 : Nat) (Option.none : Option Jvm.ClassFile.FieldType)).before a0 Z = true := H.1 _ (List.mem_of_getElem? (i := 31) rfl)
theorem w32 (H : Hyp Z a0) : (Jvm.Cond.methodLink "java/util/Arrays" (13 : Nat) ({ cls := "java/util/Arrays", name := "rangeCheck", desc := "(III)V" } : Jvm.MethodName)).before a0 Z = true := H.1 _ (List.mem_of_getElem? (i := 32) rfl)
theorem w33 (H : Hyp Z a0) : (Jvm.Cond.static ({ cls := "java/util/Arrays", name := "rangeCheck", desc := "(III)V" } : Jvm.MethodName)).before a0 Z = true := H.1 _ (List.mem_of_getElem? (i := 33) rfl)
theorem w34 (H : Hyp Z a0) : (Jvm.Cond.code ({ cls := "java/util/Arrays", name := "rangeCheck", desc := "(III)V" } : Jvm.MethodName) jdk_65_method_30_code (3 : Nat) (Option.none : Option Jvm.ClassFile.FieldType)).before a0 Z = true := H.1 _ (List.mem_of_getElem? (i := 34) rfl)
theorem w35 (H : Hyp Z a0) : (Jvm.Cond.classLink "ludarium/rules/BrutusWalkTakePinLaw" (12 : Nat) "ludarium/rules/BrutusWalk").before a0 Z = true := H.1 _ (List.mem_of_getElem? (i := 35) rfl)
theorem w36 (H : Hyp Z a0) : (Jvm.Cond.instantiable "ludarium/rules/BrutusWalk" (12 : Nat)).before a0 Z = true := H.1 _ (List.mem_of_getElem? (i := 36) rfl)
theorem w37 (H : Hyp Z a0) : (Jvm.Cond.initialized "ludarium/rules/BrutusWalk").before a0 Z = true := H.1 _ (List.mem_of_getElem? (i := 37) rfl)
theorem w38 (H : Hyp Z a0) : (Jvm.Cond.methodLink "ludarium/rules/BrutusWalkTakePinLaw" (14 : Nat) ({ cls := "ludarium/rules/BrutusWalk", name := "<init>", desc := "(Lludarium/rules/BrutusSight;)V" } : Jvm.MethodName)).before a0 Z = true := H.1 _ (List.mem_of_getElem? (i := 38) rfl)
theorem w39 (H : Hyp Z a0) : (Jvm.Cond.instanceMethod ({ cls := "ludarium/rules/BrutusWalk", name := "<init>", desc := "(Lludarium/rules/BrutusSight;)V" } : Jvm.MethodName)).before a0 Z = true := H.1 _ (List.mem_of_getElem? (i := 39) rfl)
theorem w40 (H : Hyp Z a0) : (Jvm.Cond.code ({ cls := "ludarium/rules/BrutusWalk", name := "<init>", desc := "(Lludarium/rules/BrutusSight;)V" } : Jvm.MethodName) prog_53_method_1_code (6 : Nat) (Option.none : Option Jvm.ClassFile.FieldType)).before a0 Z = true := H.1 _ (List.mem_of_getElem? (i := 40) rfl)
theorem w41 (H : Hyp Z a0) : (Jvm.Cond.methodLink "ludarium/rules/BrutusWalk" (1 : Nat) ({ cls := "java/lang/Object", name := "<init>", desc := "()V" } : Jvm.MethodName)).before a0 Z = true := H.1 _ (List.mem_of_getElem? (i := 41) rfl)
theorem w42 (H : Hyp Z a0) : (Jvm.Cond.fieldLink "ludarium/rules/BrutusWalk" (9 : Nat) "ludarium/rules/BrutusWalk" "unclaimed" "[I").before a0 Z = true := H.1 _ (List.mem_of_getElem? (i := 42) rfl)
theorem w43 (H : Hyp Z a0) : (Jvm.Cond.laysFinal "ludarium/rules/BrutusWalk" "ludarium/rules/BrutusWalk" "unclaimed" "[I").before a0 Z = true := H.1 _ (List.mem_of_getElem? (i := 43) rfl)
theorem w44 (H : Hyp Z a0) : (Jvm.Cond.classLink "ludarium/rules/BrutusWalk" (15 : Nat) "java/util/BitSet").before a0 Z = true := H.1 _ (List.mem_of_getElem? (i := 44) rfl)
theorem w45 (H : Hyp Z a0) : (Jvm.Cond.arrayOver (Jvm.ClassFile.FieldType.object "java/util/BitSet")).before a0 Z = true := H.1 _ (List.mem_of_getElem? (i := 45) rfl)
theorem w46 (H : Hyp Z a0) : (Jvm.Cond.fieldLink "ludarium/rules/BrutusWalk" (17 : Nat) "ludarium/rules/BrutusWalk" "claimed" "[Ljava/util/BitSet;").before a0 Z = true := H.1 _ (List.mem_of_getElem? (i := 46) rfl)
theorem w47 (H : Hyp Z a0) : (Jvm.Cond.laysFinal "ludarium/rules/BrutusWalk" "ludarium/rules/BrutusWalk" "claimed" "[Ljava/util/BitSet;").before a0 Z = true := H.1 _ (List.mem_of_getElem? (i := 47) rfl)
theorem w48 (H : Hyp Z a0) : (Jvm.Cond.fieldLink "ludarium/rules/BrutusWalk" (21 : Nat) "ludarium/rules/BrutusWalk" "sight" "Lludarium/rules/BrutusSight;").before a0 Z = true := H.1 _ (List.mem_of_getElem? (i := 48) rfl)
theorem w49 (H : Hyp Z a0) : (Jvm.Cond.laysFinal "ludarium/rules/BrutusWalk" "ludarium/rules/BrutusWalk" "sight" "Lludarium/rules/BrutusSight;").before a0 Z = true := H.1 _ (List.mem_of_getElem? (i := 49) rfl)
theorem w50 (H : Hyp Z a0) : (Jvm.Cond.methodLink "ludarium/rules/BrutusWalk" (25 : Nat) ({ cls := "ludarium/rules/BrutusSight", name := "seat", desc := "()I" } : Jvm.MethodName)).before a0 Z = true := H.1 _ (List.mem_of_getElem? (i := 50) rfl)
theorem w51 (H : Hyp Z a0) : (Jvm.Cond.declares ({ cls := "ludarium/rules/BrutusSight", name := "seat", desc := "()I" } : Jvm.MethodName)).before a0 Z = true := H.1 _ (List.mem_of_getElem? (i := 51) rfl)
theorem w52 (H : Hyp Z a0) : (Jvm.Cond.instanceMethod ({ cls := "ludarium/rules/BrutusSight", name := "seat", desc := "()I" } : Jvm.MethodName)).before a0 Z = true := H.1 _ (List.mem_of_getElem? (i := 52) rfl)
theorem w53 (H : Hyp Z a0) : (Jvm.Cond.selects "ludarium/rules/BrutusSight" ({ cls := "ludarium/rules/BrutusSight", name := "seat", desc := "()I" } : Jvm.MethodName) ({ cls := "ludarium/rules/BrutusSight", name := "seat", desc := "()I" } : Jvm.MethodName)).before a0 Z = true := H.1 _ (List.mem_of_getElem? (i := 53) rfl)
theorem w54 (H : Hyp Z a0) : (Jvm.Cond.code ({ cls := "ludarium/rules/BrutusSight", name := "seat", desc := "()I" } : Jvm.MethodName) prog_50_method_2_code (1 : Nat) (Option.some Jvm.ClassFile.FieldType.int)).before a0 Z = true := H.1 _ (List.mem_of_getElem? (i := 54) rfl)
theorem w55 (H : Hyp Z a0) : (Jvm.Cond.fieldLink "ludarium/rules/BrutusWalk" (31 : Nat) "ludarium/rules/BrutusWalk" "seat" "I").before a0 Z = true := H.1 _ (List.mem_of_getElem? (i := 55) rfl)
theorem w56 (H : Hyp Z a0) : (Jvm.Cond.laysFinal "ludarium/rules/BrutusWalk" "ludarium/rules/BrutusWalk" "seat" "I").before a0 Z = true := H.1 _ (List.mem_of_getElem? (i := 56) rfl)
theorem w57 (H : Hyp Z a0) : (Jvm.Cond.methodLink "ludarium/rules/BrutusWalk" (34 : Nat) ({ cls := "ludarium/rules/BrutusSight", name := "moves", desc := "()I" } : Jvm.MethodName)).before a0 Z = true := H.1 _ (List.mem_of_getElem? (i := 57) rfl)
theorem w58 (H : Hyp Z a0) : (Jvm.Cond.declares ({ cls := "ludarium/rules/BrutusSight", name := "moves", desc := "()I" } : Jvm.MethodName)).before a0 Z = true := H.1 _ (List.mem_of_getElem? (i := 58) rfl)
theorem w59 (H : Hyp Z a0) : (Jvm.Cond.instanceMethod ({ cls := "ludarium/rules/BrutusSight", name := "moves", desc := "()I" } : Jvm.MethodName)).before a0 Z = true := H.1 _ (List.mem_of_getElem? (i := 59) rfl)
theorem w60 (H : Hyp Z a0) : (Jvm.Cond.selects "ludarium/rules/BrutusSight" ({ cls := "ludarium/rules/BrutusSight", name := "moves", desc := "()I" } : Jvm.MethodName) ({ cls := "ludarium/rules/BrutusSight", name := "moves", desc := "()I" } : Jvm.MethodName)).before a0 Z = true := H.1 _ (List.mem_of_getElem? (i := 60) rfl)
theorem w61 (H : Hyp Z a0) : (Jvm.Cond.code ({ cls := "ludarium/rules/BrutusSight", name := "moves", desc := "()I" } : Jvm.MethodName) prog_50_method_7_code (1 : Nat) (Option.some Jvm.ClassFile.FieldType.int)).before a0 Z = true := H.1 _ (List.mem_of_getElem? (i := 61) rfl)
theorem w62 (H : Hyp Z a0) : (Jvm.Cond.fieldLink "ludarium/rules/BrutusWalk" (37 : Nat) "ludarium/rules/BrutusWalk" "moved" "[I").before a0 Z = true := H.1 _ (List.mem_of_getElem? (i := 62) rfl)
theorem w63 (H : Hyp Z a0) : (Jvm.Cond.laysFinal "ludarium/rules/BrutusWalk" "ludarium/rules/BrutusWalk" "moved" "[I").before a0 Z = true := H.1 _ (List.mem_of_getElem? (i := 63) rfl)
theorem w64 (H : Hyp Z a0) : (Jvm.Cond.fieldLink "ludarium/rules/BrutusWalk" (40 : Nat) "ludarium/rules/BrutusWalk" "carried" "[Ljava/util/BitSet;").before a0 Z = true := H.1 _ (List.mem_of_getElem? (i := 64) rfl)
theorem w65 (H : Hyp Z a0) : (Jvm.Cond.laysFinal "ludarium/rules/BrutusWalk" "ludarium/rules/BrutusWalk" "carried" "[Ljava/util/BitSet;").before a0 Z = true := H.1 _ (List.mem_of_getElem? (i := 65) rfl)
theorem w66 (H : Hyp Z a0) : (Jvm.Cond.methodLink "ludarium/rules/BrutusWalk" (43 : Nat) ({ cls := "ludarium/rules/BrutusSight", name := "places", desc := "()I" } : Jvm.MethodName)).before a0 Z = true := H.1 _ (List.mem_of_getElem? (i := 66) rfl)
theorem w67 (H : Hyp Z a0) : (Jvm.Cond.declares ({ cls := "ludarium/rules/BrutusSight", name := "places", desc := "()I" } : Jvm.MethodName)).before a0 Z = true := H.1 _ (List.mem_of_getElem? (i := 67) rfl)
theorem w68 (H : Hyp Z a0) : (Jvm.Cond.instanceMethod ({ cls := "ludarium/rules/BrutusSight", name := "places", desc := "()I" } : Jvm.MethodName)).before a0 Z = true := H.1 _ (List.mem_of_getElem? (i := 68) rfl)
theorem w69 (H : Hyp Z a0) : (Jvm.Cond.selects "ludarium/rules/BrutusSight" ({ cls := "ludarium/rules/BrutusSight", name := "places", desc := "()I" } : Jvm.MethodName) ({ cls := "ludarium/rules/BrutusSight", name := "places", desc := "()I" } : Jvm.MethodName)).before a0 Z = true := H.1 _ (List.mem_of_getElem? (i := 69) rfl)
theorem w70 (H : Hyp Z a0) : (Jvm.Cond.code ({ cls := "ludarium/rules/BrutusSight", name := "places", desc := "()I" } : Jvm.MethodName) prog_50_method_4_code (1 : Nat) (Option.some Jvm.ClassFile.FieldType.int)).before a0 Z = true := H.1 _ (List.mem_of_getElem? (i := 70) rfl)
theorem w71 (H : Hyp Z a0) : (Jvm.Cond.methodLink "ludarium/rules/BrutusWalk" (46 : Nat) ({ cls := "ludarium/rules/BrutusSight", name := "dealt", desc := "(I)I" } : Jvm.MethodName)).before a0 Z = true := H.1 _ (List.mem_of_getElem? (i := 71) rfl)
theorem w72 (H : Hyp Z a0) : (Jvm.Cond.declares ({ cls := "ludarium/rules/BrutusSight", name := "dealt", desc := "(I)I" } : Jvm.MethodName)).before a0 Z = true := H.1 _ (List.mem_of_getElem? (i := 72) rfl)
theorem w73 (H : Hyp Z a0) : (Jvm.Cond.instanceMethod ({ cls := "ludarium/rules/BrutusSight", name := "dealt", desc := "(I)I" } : Jvm.MethodName)).before a0 Z = true := H.1 _ (List.mem_of_getElem? (i := 73) rfl)
theorem w74 (H : Hyp Z a0) : (Jvm.Cond.selects "ludarium/rules/BrutusSight" ({ cls := "ludarium/rules/BrutusSight", name := "dealt", desc := "(I)I" } : Jvm.MethodName) ({ cls := "ludarium/rules/BrutusSight", name := "dealt", desc := "(I)I" } : Jvm.MethodName)).before a0 Z = true := H.1 _ (List.mem_of_getElem? (i := 74) rfl)
theorem w75 (H : Hyp Z a0) : (Jvm.Cond.code ({ cls := "ludarium/rules/BrutusSight", name := "dealt", desc := "(I)I" } : Jvm.MethodName) prog_50_method_5_code (2 : Nat) (Option.some Jvm.ClassFile.FieldType.int)).before a0 Z = true := H.1 _ (List.mem_of_getElem? (i := 75) rfl)
theorem w76 (H : Hyp Z a0) : (Jvm.Cond.fieldLink "ludarium/rules/BrutusWalk" (50 : Nat) "ludarium/rules/BrutusWalk" "dealtTo" "[I").before a0 Z = true := H.1 _ (List.mem_of_getElem? (i := 76) rfl)
theorem w77 (H : Hyp Z a0) : (Jvm.Cond.laysFinal "ludarium/rules/BrutusWalk" "ludarium/rules/BrutusWalk" "dealtTo" "[I").before a0 Z = true := H.1 _ (List.mem_of_getElem? (i := 77) rfl)
theorem w78 (H : Hyp Z a0) : (Jvm.Cond.fieldLink "ludarium/rules/BrutusWalk" (53 : Nat) "ludarium/rules/BrutusWalk" "values" "[I").before a0 Z = true := H.1 _ (List.mem_of_getElem? (i := 78) rfl)
theorem w79 (H : Hyp Z a0) : (Jvm.Cond.laysFinal "ludarium/rules/BrutusWalk" "ludarium/rules/BrutusWalk" "values" "[I").before a0 Z = true := H.1 _ (List.mem_of_getElem? (i := 79) rfl)
theorem w80 (H : Hyp Z a0) : (Jvm.Cond.classLink "ludarium/rules/BrutusWalk" (56 : Nat) "[[I").before a0 Z = true := H.1 _ (List.mem_of_getElem? (i := 80) rfl)
theorem w81 (H : Hyp Z a0) : (Jvm.Cond.arrayOver (Jvm.ClassFile.FieldType.array Jvm.ClassFile.FieldType.int)).before a0 Z = true := H.1 _ (List.mem_of_getElem? (i := 81) rfl)
theorem w82 (H : Hyp Z a0) : (Jvm.Cond.fieldLink "ludarium/rules/BrutusWalk" (58 : Nat) "ludarium/rules/BrutusWalk" "held" "[[I").before a0 Z = true := H.1 _ (List.mem_of_getElem? (i := 82) rfl)
theorem w83 (H : Hyp Z a0) : (Jvm.Cond.laysFinal "ludarium/rules/BrutusWalk" "ludarium/rules/BrutusWalk" "held" "[[I").before a0 Z = true := H.1 _ (List.mem_of_getElem? (i := 83) rfl)
theorem w84 (H : Hyp Z a0) : (Jvm.Cond.fieldLink "ludarium/rules/BrutusWalk" (61 : Nat) "ludarium/rules/BrutusWalk" "heldCount" "[I").before a0 Z = true := H.1 _ (List.mem_of_getElem? (i := 84) rfl)
theorem w85 (H : Hyp Z a0) : (Jvm.Cond.laysFinal "ludarium/rules/BrutusWalk" "ludarium/rules/BrutusWalk" "heldCount" "[I").before a0 Z = true := H.1 _ (List.mem_of_getElem? (i := 85) rfl)
theorem w86 (H : Hyp Z a0) : (Jvm.Cond.fieldLink "ludarium/rules/BrutusWalk" (64 : Nat) "ludarium/rules/BrutusWalk" "shaped" "[Ljava/util/BitSet;").before a0 Z = true := H.1 _ (List.mem_of_getElem? (i := 86) rfl)
theorem w87 (H : Hyp Z a0) : (Jvm.Cond.laysFinal "ludarium/rules/BrutusWalk" "ludarium/rules/BrutusWalk" "shaped" "[Ljava/util/BitSet;").before a0 Z = true := H.1 _ (List.mem_of_getElem? (i := 87) rfl)
theorem w88 (H : Hyp Z a0) : (Jvm.Cond.methodLink "ludarium/rules/BrutusWalk" (67 : Nat) ({ cls := "java/util/Arrays", name := "fill", desc := "([IIII)V" } : Jvm.MethodName)).before a0 Z = true := H.1 _ (List.mem_of_getElem? (i := 88) rfl)
theorem w89 (H : Hyp Z a0) : (Jvm.Cond.constant "ludarium/rules/BrutusWalkTakePinLaw" (17 : Nat) (2147483647 : Int32)).before a0 Z = true := H.1 _ (List.mem_of_getElem? (i := 89) rfl)
theorem w90 (H : Hyp Z a0) : (Jvm.Cond.fieldLink "ludarium/rules/BrutusWalkTakePinLaw" (18 : Nat) "ludarium/rules/BrutusWalk" "held" "[[I").before a0 Z = true := H.1 _ (List.mem_of_getElem? (i := 90) rfl)
theorem w91 (H : Hyp Z a0) : (Jvm.Cond.fieldLink "ludarium/rules/BrutusWalkTakePinLaw" (22 : Nat) "ludarium/rules/BrutusWalk" "heldCount" "[I").before a0 Z = true := H.1 _ (List.mem_of_getElem? (i := 91) rfl)
theorem w92 (H : Hyp Z a0) : (Jvm.Cond.methodLink "ludarium/rules/BrutusWalkTakePinLaw" (26 : Nat) ({ cls := "ludarium/rules/BrutusWalk", name := "take", desc := "(III)V" } : Jvm.MethodName)).before a0 Z = true := H.1 _ (List.mem_of_getElem? (i := 92) rfl)
theorem w93 (H : Hyp Z a0) : (Jvm.Cond.declares ({ cls := "ludarium/rules/BrutusWalk", name := "take", desc := "(III)V" } : Jvm.MethodName)).before a0 Z = true := H.1 _ (List.mem_of_getElem? (i := 93) rfl)
theorem w94 (H : Hyp Z a0) : (Jvm.Cond.instanceMethod ({ cls := "ludarium/rules/BrutusWalk", name := "take", desc := "(III)V" } : Jvm.MethodName)).before a0 Z = true := H.1 _ (List.mem_of_getElem? (i := 94) rfl)
theorem w95 (H : Hyp Z a0) : (Jvm.Cond.selects "ludarium/rules/BrutusWalk" ({ cls := "ludarium/rules/BrutusWalk", name := "take", desc := "(III)V" } : Jvm.MethodName) ({ cls := "ludarium/rules/BrutusWalk", name := "take", desc := "(III)V" } : Jvm.MethodName)).before a0 Z = true := H.1 _ (List.mem_of_getElem? (i := 95) rfl)
theorem w96 (H : Hyp Z a0) : (Jvm.Cond.code ({ cls := "ludarium/rules/BrutusWalk", name := "take", desc := "(III)V" } : Jvm.MethodName) prog_53_method_10_code (4 : Nat) (Option.none : Option Jvm.ClassFile.FieldType)).before a0 Z = true := H.1 _ (List.mem_of_getElem? (i := 96) rfl)
theorem w97 (H : Hyp Z a0) : (Jvm.Cond.fieldLink "ludarium/rules/BrutusWalkTakePinLaw" (30 : Nat) "ludarium/rules/BrutusWalk" "moved" "[I").before a0 Z = true := H.1 _ (List.mem_of_getElem? (i := 97) rfl)
theorem w98 (H : Hyp Z a0) : (Jvm.Cond.methodLink "ludarium/rules/BrutusWalkTakePinLaw" (33 : Nat) ({ cls := "ludarium/rules/BrutusWalkTakePinLaw", name := "slot", desc := "([IIIII)Z" } : Jvm.MethodName)).before a0 Z = true := H.1 _ (List.mem_of_getElem? (i := 98) rfl)
theorem w99 (H : Hyp Z a0) : (Jvm.Cond.static ({ cls := "ludarium/rules/BrutusWalkTakePinLaw", name := "slot", desc := "([IIIII)Z" } : Jvm.MethodName)).before a0 Z = true := H.1 _ (List.mem_of_getElem? (i := 99) rfl)
theorem w100 (H : Hyp Z a0) : (Jvm.Cond.initialized "ludarium/rules/BrutusWalkTakePinLaw").before a0 Z = true := H.1 _ (List.mem_of_getElem? (i := 100) rfl)
theorem w101 (H : Hyp Z a0) : (Jvm.Cond.code ({ cls := "ludarium/rules/BrutusWalkTakePinLaw", name := "slot", desc := "([IIIII)Z" } : Jvm.MethodName) method_3_code (6 : Nat) (Option.some Jvm.ClassFile.FieldType.boolean)).before a0 Z = true := H.1 _ (List.mem_of_getElem? (i := 101) rfl)
end Facts
theorem d1_0 : decode prog_50_method_1_code 0 = .ok (.aload_n 0, 1) := by decide +kernel
theorem d1_1 : decode prog_50_method_1_code 1 = .ok (.invokespecial 3, 3) := by decide +kernel
theorem d1_4 : decode prog_50_method_1_code 4 = .ok (.aload_n 0, 1) := by decide +kernel
theorem d1_5 : decode prog_50_method_1_code 5 = .ok (.iload_n 1, 1) := by decide +kernel
theorem d1_6 : decode prog_50_method_1_code 6 = .ok (.putfield 9, 3) := by decide +kernel
theorem d1_9 : decode prog_50_method_1_code 9 = .ok (.aload_n 0, 1) := by decide +kernel
theorem d1_10 : decode prog_50_method_1_code 10 = .ok (.iload_n 2, 1) := by decide +kernel
theorem d1_11 : decode prog_50_method_1_code 11 = .ok (.putfield 15, 3) := by decide +kernel
theorem d1_14 : decode prog_50_method_1_code 14 = .ok (.aload_n 0, 1) := by decide +kernel
theorem d1_15 : decode prog_50_method_1_code 15 = .ok (.aload_n 3, 1) := by decide +kernel
theorem d1_16 : decode prog_50_method_1_code 16 = .ok (.putfield 18, 3) := by decide +kernel
theorem d1_19 : decode prog_50_method_1_code 19 = .ok (.aload_n 0, 1) := by decide +kernel
theorem d1_20 : decode prog_50_method_1_code 20 = .ok (.aload 4, 2) := by decide +kernel
theorem d1_22 : decode prog_50_method_1_code 22 = .ok (.putfield 22, 3) := by decide +kernel
theorem d1_25 : decode prog_50_method_1_code 25 = .ok (.aload_n 0, 1) := by decide +kernel
theorem d1_26 : decode prog_50_method_1_code 26 = .ok (.aload 5, 2) := by decide +kernel
theorem d1_28 : decode prog_50_method_1_code 28 = .ok (.putfield 25, 3) := by decide +kernel
theorem d1_31 : decode prog_50_method_1_code 31 = .ok (.aload_n 0, 1) := by decide +kernel
theorem d1_32 : decode prog_50_method_1_code 32 = .ok (.aload 5, 2) := by decide +kernel
theorem d1_34 : decode prog_50_method_1_code 34 = .ok (.arraylength, 1) := by decide +kernel
theorem d1_35 : decode prog_50_method_1_code 35 = .ok (.newarray .int, 2) := by decide +kernel
theorem d1_37 : decode prog_50_method_1_code 37 = .ok (.putfield 28, 3) := by decide +kernel
theorem d1_40 : decode prog_50_method_1_code 40 = .ok (.aload_n 0, 1) := by decide +kernel
theorem d1_41 : decode prog_50_method_1_code 41 = .ok (.aload 5, 2) := by decide +kernel
theorem d1_43 : decode prog_50_method_1_code 43 = .ok (.arraylength, 1) := by decide +kernel
theorem d1_44 : decode prog_50_method_1_code 44 = .ok (.newarray .int, 2) := by decide +kernel
theorem d1_46 : decode prog_50_method_1_code 46 = .ok (.putfield 31, 3) := by decide +kernel
theorem d1_49 : decode prog_50_method_1_code 49 = .ok (.iconst 0, 1) := by decide +kernel
theorem d1_50 : decode prog_50_method_1_code 50 = .ok (.istore 6, 2) := by decide +kernel
theorem d1_52 : decode prog_50_method_1_code 52 = .ok (.iload 6, 2) := by decide +kernel
theorem d1_54 : decode prog_50_method_1_code 54 = .ok (.aload 5, 2) := by decide +kernel
theorem d1_56 : decode prog_50_method_1_code 56 = .ok (.arraylength, 1) := by decide +kernel
theorem d1_57 : decode prog_50_method_1_code 57 = .ok (.if_icmp .ge 48, 3) := by decide +kernel
theorem d1_60 : decode prog_50_method_1_code 60 = .ok (.aload 5, 2) := by decide +kernel
theorem d1_62 : decode prog_50_method_1_code 62 = .ok (.aload 5, 2) := by decide +kernel
theorem d1_64 : decode prog_50_method_1_code 64 = .ok (.arraylength, 1) := by decide +kernel
theorem d1_65 : decode prog_50_method_1_code 65 = .ok (.iload 6, 2) := by decide +kernel
theorem d1_67 : decode prog_50_method_1_code 67 = .ok (.invokestatic 34, 3) := by decide +kernel
theorem d1_70 : decode prog_50_method_1_code 70 = .ok (.istore 7, 2) := by decide +kernel
theorem d1_72 : decode prog_50_method_1_code 72 = .ok (.aload_n 0, 1) := by decide +kernel
theorem d1_73 : decode prog_50_method_1_code 73 = .ok (.getfield 28, 3) := by decide +kernel
theorem d1_76 : decode prog_50_method_1_code 76 = .ok (.iload 6, 2) := by decide +kernel
theorem d1_78 : decode prog_50_method_1_code 78 = .ok (.iload 7, 2) := by decide +kernel
theorem d1_80 : decode prog_50_method_1_code 80 = .ok (.iload 6, 2) := by decide +kernel
theorem d1_82 : decode prog_50_method_1_code 82 = .ok (.invokestatic 39, 3) := by decide +kernel
theorem d1_85 : decode prog_50_method_1_code 85 = .ok (.aload_n 0, 1) := by decide +kernel
theorem d1_86 : decode prog_50_method_1_code 86 = .ok (.getfield 31, 3) := by decide +kernel
theorem d1_89 : decode prog_50_method_1_code 89 = .ok (.iload 6, 2) := by decide +kernel
theorem d1_91 : decode prog_50_method_1_code 91 = .ok (.iload 7, 2) := by decide +kernel
theorem d1_93 : decode prog_50_method_1_code 93 = .ok (.iload 7, 2) := by decide +kernel
theorem d1_95 : decode prog_50_method_1_code 95 = .ok (.invokestatic 39, 3) := by decide +kernel
theorem d1_98 : decode prog_50_method_1_code 98 = .ok (.iload 7, 2) := by decide +kernel
theorem d1_100 : decode prog_50_method_1_code 100 = .ok (.istore 6, 2) := by decide +kernel
theorem d1_102 : decode prog_50_method_1_code 102 = .ok (.goto (-50), 3) := by decide +kernel
theorem d1_105 : decode prog_50_method_1_code 105 = .ok (.return_, 1) := by decide +kernel
theorem d3_0 : decode prog_18_method_31_code 0 = .ok (.aload_n 0, 1) := by decide +kernel
theorem d3_1 : decode prog_18_method_31_code 1 = .ok (.iload_n 2, 1) := by decide +kernel
theorem d3_2 : decode prog_18_method_31_code 2 = .ok (.iaload, 1) := by decide +kernel
theorem d3_3 : decode prog_18_method_31_code 3 = .ok (.istore_n 3, 1) := by decide +kernel
theorem d3_4 : decode prog_18_method_31_code 4 = .ok (.iload_n 2, 1) := by decide +kernel
theorem d3_5 : decode prog_18_method_31_code 5 = .ok (.iconst 1, 1) := by decide +kernel
theorem d3_6 : decode prog_18_method_31_code 6 = .ok (.iadd, 1) := by decide +kernel
theorem d3_7 : decode prog_18_method_31_code 7 = .ok (.istore 4, 2) := by decide +kernel
theorem d3_9 : decode prog_18_method_31_code 9 = .ok (.iload_n 3, 1) := by decide +kernel
theorem d3_10 : decode prog_18_method_31_code 10 = .ok (.sipush 16384, 3) := by decide +kernel
theorem d3_13 : decode prog_18_method_31_code 13 = .ok (.iand, 1) := by decide +kernel
theorem d3_14 : decode prog_18_method_31_code 14 = .ok (.ifCond .eq 40, 3) := by decide +kernel
theorem d3_54 : decode prog_18_method_31_code 54 = .ok (.iload 4, 2) := by decide +kernel
theorem d3_56 : decode prog_18_method_31_code 56 = .ok (.iload_n 1, 1) := by decide +kernel
theorem d3_57 : decode prog_18_method_31_code 57 = .ok (.if_icmp .ge 22, 3) := by decide +kernel
theorem d3_60 : decode prog_18_method_31_code 60 = .ok (.aload_n 0, 1) := by decide +kernel
theorem d3_61 : decode prog_18_method_31_code 61 = .ok (.iload 4, 2) := by decide +kernel
theorem d3_63 : decode prog_18_method_31_code 63 = .ok (.iconst 1, 1) := by decide +kernel
theorem d3_64 : decode prog_18_method_31_code 64 = .ok (.isub, 1) := by decide +kernel
theorem d3_65 : decode prog_18_method_31_code 65 = .ok (.iaload, 1) := by decide +kernel
theorem d3_66 : decode prog_18_method_31_code 66 = .ok (.sipush 8192, 3) := by decide +kernel
theorem d3_69 : decode prog_18_method_31_code 69 = .ok (.iand, 1) := by decide +kernel
theorem d3_70 : decode prog_18_method_31_code 70 = .ok (.ifCond .eq 9, 3) := by decide +kernel
theorem d3_79 : decode prog_18_method_31_code 79 = .ok (.iload 4, 2) := by decide +kernel
theorem d3_81 : decode prog_18_method_31_code 81 = .ok (.ireturn, 1) := by decide +kernel
theorem d4_0 : decode jdk_65_method_104_code 0 = .ok (.aload_n 0, 1) := by decide +kernel
theorem d4_1 : decode jdk_65_method_104_code 1 = .ok (.arraylength, 1) := by decide +kernel
theorem d4_2 : decode jdk_65_method_104_code 2 = .ok (.iload_n 1, 1) := by decide +kernel
theorem d4_3 : decode jdk_65_method_104_code 3 = .ok (.iload_n 2, 1) := by decide +kernel
theorem d4_4 : decode jdk_65_method_104_code 4 = .ok (.invokestatic 13, 3) := by decide +kernel
theorem d4_7 : decode jdk_65_method_104_code 7 = .ok (.iload_n 1, 1) := by decide +kernel
theorem d4_8 : decode jdk_65_method_104_code 8 = .ok (.istore 4, 2) := by decide +kernel
theorem d4_10 : decode jdk_65_method_104_code 10 = .ok (.iload 4, 2) := by decide +kernel
theorem d4_12 : decode jdk_65_method_104_code 12 = .ok (.iload_n 2, 1) := by decide +kernel
theorem d4_13 : decode jdk_65_method_104_code 13 = .ok (.if_icmp .ge 14, 3) := by decide +kernel
theorem d4_16 : decode jdk_65_method_104_code 16 = .ok (.aload_n 0, 1) := by decide +kernel
theorem d4_17 : decode jdk_65_method_104_code 17 = .ok (.iload 4, 2) := by decide +kernel
theorem d4_19 : decode jdk_65_method_104_code 19 = .ok (.iload_n 3, 1) := by decide +kernel
theorem d4_20 : decode jdk_65_method_104_code 20 = .ok (.iastore, 1) := by decide +kernel
theorem d4_21 : decode jdk_65_method_104_code 21 = .ok (.iinc 4 1, 3) := by decide +kernel
theorem d4_24 : decode jdk_65_method_104_code 24 = .ok (.goto (-14), 3) := by decide +kernel
theorem d4_27 : decode jdk_65_method_104_code 27 = .ok (.return_, 1) := by decide +kernel
theorem d5_0 : decode jdk_65_method_30_code 0 = .ok (.iload_n 1, 1) := by decide +kernel
theorem d5_1 : decode jdk_65_method_30_code 1 = .ok (.iload_n 2, 1) := by decide +kernel
theorem d5_2 : decode jdk_65_method_30_code 2 = .ok (.if_icmp .le 44, 3) := by decide +kernel
theorem d5_46 : decode jdk_65_method_30_code 46 = .ok (.iload_n 1, 1) := by decide +kernel
theorem d5_47 : decode jdk_65_method_30_code 47 = .ok (.ifCond .ge 12, 3) := by decide +kernel
theorem d5_59 : decode jdk_65_method_30_code 59 = .ok (.iload_n 2, 1) := by decide +kernel
theorem d5_60 : decode jdk_65_method_30_code 60 = .ok (.iload_n 0, 1) := by decide +kernel
theorem d5_61 : decode jdk_65_method_30_code 61 = .ok (.if_icmp .le 12, 3) := by decide +kernel
theorem d5_73 : decode jdk_65_method_30_code 73 = .ok (.return_, 1) := by decide +kernel
theorem d6_0 : decode prog_53_method_1_code 0 = .ok (.aload_n 0, 1) := by decide +kernel
theorem d6_1 : decode prog_53_method_1_code 1 = .ok (.invokespecial 1, 3) := by decide +kernel
theorem d6_4 : decode prog_53_method_1_code 4 = .ok (.aload_n 0, 1) := by decide +kernel
theorem d6_5 : decode prog_53_method_1_code 5 = .ok (.bipush 14, 2) := by decide +kernel
theorem d6_7 : decode prog_53_method_1_code 7 = .ok (.newarray .int, 2) := by decide +kernel
theorem d6_9 : decode prog_53_method_1_code 9 = .ok (.putfield 9, 3) := by decide +kernel
theorem d6_12 : decode prog_53_method_1_code 12 = .ok (.aload_n 0, 1) := by decide +kernel
theorem d6_13 : decode prog_53_method_1_code 13 = .ok (.bipush 14, 2) := by decide +kernel
theorem d6_15 : decode prog_53_method_1_code 15 = .ok (.anewarray 15, 3) := by decide +kernel
theorem d6_18 : decode prog_53_method_1_code 18 = .ok (.putfield 17, 3) := by decide +kernel
theorem d6_21 : decode prog_53_method_1_code 21 = .ok (.aload_n 0, 1) := by decide +kernel
theorem d6_22 : decode prog_53_method_1_code 22 = .ok (.aload_n 1, 1) := by decide +kernel
theorem d6_23 : decode prog_53_method_1_code 23 = .ok (.putfield 21, 3) := by decide +kernel
theorem d6_26 : decode prog_53_method_1_code 26 = .ok (.aload_n 0, 1) := by decide +kernel
theorem d6_27 : decode prog_53_method_1_code 27 = .ok (.aload_n 1, 1) := by decide +kernel
theorem d6_28 : decode prog_53_method_1_code 28 = .ok (.invokevirtual 25, 3) := by decide +kernel
theorem d6_31 : decode prog_53_method_1_code 31 = .ok (.putfield 31, 3) := by decide +kernel
theorem d6_34 : decode prog_53_method_1_code 34 = .ok (.aload_n 0, 1) := by decide +kernel
theorem d6_35 : decode prog_53_method_1_code 35 = .ok (.aload_n 1, 1) := by decide +kernel
theorem d6_36 : decode prog_53_method_1_code 36 = .ok (.invokevirtual 34, 3) := by decide +kernel
theorem d6_39 : decode prog_53_method_1_code 39 = .ok (.newarray .int, 2) := by decide +kernel
theorem d6_41 : decode prog_53_method_1_code 41 = .ok (.putfield 37, 3) := by decide +kernel
theorem d6_44 : decode prog_53_method_1_code 44 = .ok (.aload_n 0, 1) := by decide +kernel
theorem d6_45 : decode prog_53_method_1_code 45 = .ok (.aload_n 1, 1) := by decide +kernel
theorem d6_46 : decode prog_53_method_1_code 46 = .ok (.invokevirtual 34, 3) := by decide +kernel
theorem d6_49 : decode prog_53_method_1_code 49 = .ok (.anewarray 15, 3) := by decide +kernel
theorem d6_52 : decode prog_53_method_1_code 52 = .ok (.putfield 40, 3) := by decide +kernel
theorem d6_55 : decode prog_53_method_1_code 55 = .ok (.aload_n 1, 1) := by decide +kernel
theorem d6_56 : decode prog_53_method_1_code 56 = .ok (.invokevirtual 43, 3) := by decide +kernel
theorem d6_59 : decode prog_53_method_1_code 59 = .ok (.istore_n 2, 1) := by decide +kernel
theorem d6_60 : decode prog_53_method_1_code 60 = .ok (.iconst 0, 1) := by decide +kernel
theorem d6_61 : decode prog_53_method_1_code 61 = .ok (.istore_n 3, 1) := by decide +kernel
theorem d6_62 : decode prog_53_method_1_code 62 = .ok (.iconst 0, 1) := by decide +kernel
theorem d6_63 : decode prog_53_method_1_code 63 = .ok (.istore 4, 2) := by decide +kernel
theorem d6_65 : decode prog_53_method_1_code 65 = .ok (.iload 4, 2) := by decide +kernel
theorem d6_67 : decode prog_53_method_1_code 67 = .ok (.iload_n 2, 1) := by decide +kernel
theorem d6_68 : decode prog_53_method_1_code 68 = .ok (.if_icmp .ge 18, 3) := by decide +kernel
theorem d6_71 : decode prog_53_method_1_code 71 = .ok (.iload_n 3, 1) := by decide +kernel
theorem d6_72 : decode prog_53_method_1_code 72 = .ok (.aload_n 1, 1) := by decide +kernel
theorem d6_73 : decode prog_53_method_1_code 73 = .ok (.iload 4, 2) := by decide +kernel
theorem d6_75 : decode prog_53_method_1_code 75 = .ok (.invokevirtual 46, 3) := by decide +kernel
theorem d6_78 : decode prog_53_method_1_code 78 = .ok (.iadd, 1) := by decide +kernel
theorem d6_79 : decode prog_53_method_1_code 79 = .ok (.istore_n 3, 1) := by decide +kernel
theorem d6_80 : decode prog_53_method_1_code 80 = .ok (.iinc 4 1, 3) := by decide +kernel
theorem d6_83 : decode prog_53_method_1_code 83 = .ok (.goto (-18), 3) := by decide +kernel
theorem d6_86 : decode prog_53_method_1_code 86 = .ok (.aload_n 0, 1) := by decide +kernel
theorem d6_87 : decode prog_53_method_1_code 87 = .ok (.iload_n 3, 1) := by decide +kernel
theorem d6_88 : decode prog_53_method_1_code 88 = .ok (.newarray .int, 2) := by decide +kernel
theorem d6_90 : decode prog_53_method_1_code 90 = .ok (.putfield 50, 3) := by decide +kernel
theorem d6_93 : decode prog_53_method_1_code 93 = .ok (.aload_n 0, 1) := by decide +kernel
theorem d6_94 : decode prog_53_method_1_code 94 = .ok (.iload_n 3, 1) := by decide +kernel
theorem d6_95 : decode prog_53_method_1_code 95 = .ok (.newarray .int, 2) := by decide +kernel
theorem d6_97 : decode prog_53_method_1_code 97 = .ok (.putfield 53, 3) := by decide +kernel
theorem d6_100 : decode prog_53_method_1_code 100 = .ok (.aload_n 0, 1) := by decide +kernel
theorem d6_101 : decode prog_53_method_1_code 101 = .ok (.iload_n 2, 1) := by decide +kernel
theorem d6_102 : decode prog_53_method_1_code 102 = .ok (.iload_n 3, 1) := by decide +kernel
theorem d6_103 : decode prog_53_method_1_code 103 = .ok (.multianewarray 56 2, 4) := by decide +kernel
theorem d6_107 : decode prog_53_method_1_code 107 = .ok (.putfield 58, 3) := by decide +kernel
theorem d6_110 : decode prog_53_method_1_code 110 = .ok (.aload_n 0, 1) := by decide +kernel
theorem d6_111 : decode prog_53_method_1_code 111 = .ok (.iload_n 2, 1) := by decide +kernel
theorem d6_112 : decode prog_53_method_1_code 112 = .ok (.newarray .int, 2) := by decide +kernel
theorem d6_114 : decode prog_53_method_1_code 114 = .ok (.putfield 61, 3) := by decide +kernel
theorem d6_117 : decode prog_53_method_1_code 117 = .ok (.aload_n 0, 1) := by decide +kernel
theorem d6_118 : decode prog_53_method_1_code 118 = .ok (.iload_n 2, 1) := by decide +kernel
theorem d6_119 : decode prog_53_method_1_code 119 = .ok (.anewarray 15, 3) := by decide +kernel
theorem d6_122 : decode prog_53_method_1_code 122 = .ok (.putfield 64, 3) := by decide +kernel
theorem d6_125 : decode prog_53_method_1_code 125 = .ok (.iconst 0, 1) := by decide +kernel
theorem d6_126 : decode prog_53_method_1_code 126 = .ok (.istore 4, 2) := by decide +kernel
theorem d6_128 : decode prog_53_method_1_code 128 = .ok (.iconst 0, 1) := by decide +kernel
theorem d6_129 : decode prog_53_method_1_code 129 = .ok (.istore 5, 2) := by decide +kernel
theorem d6_131 : decode prog_53_method_1_code 131 = .ok (.iload 5, 2) := by decide +kernel
theorem d6_133 : decode prog_53_method_1_code 133 = .ok (.iload_n 2, 1) := by decide +kernel
theorem d6_134 : decode prog_53_method_1_code 134 = .ok (.if_icmp .ge 40, 3) := by decide +kernel
theorem d6_137 : decode prog_53_method_1_code 137 = .ok (.aload_n 0, 1) := by decide +kernel
theorem d6_138 : decode prog_53_method_1_code 138 = .ok (.getfield 50, 3) := by decide +kernel
theorem d6_141 : decode prog_53_method_1_code 141 = .ok (.iload 4, 2) := by decide +kernel
theorem d6_143 : decode prog_53_method_1_code 143 = .ok (.iload 4, 2) := by decide +kernel
theorem d6_145 : decode prog_53_method_1_code 145 = .ok (.aload_n 1, 1) := by decide +kernel
theorem d6_146 : decode prog_53_method_1_code 146 = .ok (.iload 5, 2) := by decide +kernel
theorem d6_148 : decode prog_53_method_1_code 148 = .ok (.invokevirtual 46, 3) := by decide +kernel
theorem d6_151 : decode prog_53_method_1_code 151 = .ok (.iadd, 1) := by decide +kernel
theorem d6_152 : decode prog_53_method_1_code 152 = .ok (.iload 5, 2) := by decide +kernel
theorem d6_154 : decode prog_53_method_1_code 154 = .ok (.invokestatic 67, 3) := by decide +kernel
theorem d6_157 : decode prog_53_method_1_code 157 = .ok (.iload 4, 2) := by decide +kernel
theorem d6_159 : decode prog_53_method_1_code 159 = .ok (.aload_n 1, 1) := by decide +kernel
theorem d6_160 : decode prog_53_method_1_code 160 = .ok (.iload 5, 2) := by decide +kernel
theorem d6_162 : decode prog_53_method_1_code 162 = .ok (.invokevirtual 46, 3) := by decide +kernel
theorem d6_165 : decode prog_53_method_1_code 165 = .ok (.iadd, 1) := by decide +kernel
theorem d6_166 : decode prog_53_method_1_code 166 = .ok (.istore 4, 2) := by decide +kernel
theorem d6_168 : decode prog_53_method_1_code 168 = .ok (.iinc 5 1, 3) := by decide +kernel
theorem d6_171 : decode prog_53_method_1_code 171 = .ok (.goto (-40), 3) := by decide +kernel
theorem d6_174 : decode prog_53_method_1_code 174 = .ok (.return_, 1) := by decide +kernel
theorem d7_0 : decode prog_50_method_2_code 0 = .ok (.aload_n 0, 1) := by decide +kernel
theorem d7_1 : decode prog_50_method_2_code 1 = .ok (.getfield 9, 3) := by decide +kernel
theorem d7_4 : decode prog_50_method_2_code 4 = .ok (.ireturn, 1) := by decide +kernel
theorem d8_0 : decode prog_50_method_7_code 0 = .ok (.aload_n 0, 1) := by decide +kernel
theorem d8_1 : decode prog_50_method_7_code 1 = .ok (.getfield 25, 3) := by decide +kernel
theorem d8_4 : decode prog_50_method_7_code 4 = .ok (.arraylength, 1) := by decide +kernel
theorem d8_5 : decode prog_50_method_7_code 5 = .ok (.ireturn, 1) := by decide +kernel
theorem d9_0 : decode prog_50_method_4_code 0 = .ok (.aload_n 0, 1) := by decide +kernel
theorem d9_1 : decode prog_50_method_4_code 1 = .ok (.getfield 18, 3) := by decide +kernel
theorem d9_4 : decode prog_50_method_4_code 4 = .ok (.arraylength, 1) := by decide +kernel
theorem d9_5 : decode prog_50_method_4_code 5 = .ok (.ireturn, 1) := by decide +kernel
theorem d10_0 : decode prog_50_method_5_code 0 = .ok (.aload_n 0, 1) := by decide +kernel
theorem d10_1 : decode prog_50_method_5_code 1 = .ok (.getfield 18, 3) := by decide +kernel
theorem d10_4 : decode prog_50_method_5_code 4 = .ok (.iload_n 1, 1) := by decide +kernel
theorem d10_5 : decode prog_50_method_5_code 5 = .ok (.iaload, 1) := by decide +kernel
theorem d10_6 : decode prog_50_method_5_code 6 = .ok (.ireturn, 1) := by decide +kernel
theorem d12_0 : decode method_3_code 0 = .ok (.iload_n 1, 1) := by decide +kernel
theorem d12_1 : decode method_3_code 1 = .ok (.iload_n 2, 1) := by decide +kernel
theorem d12_2 : decode method_3_code 2 = .ok (.if_icmp .lt 19, 3) := by decide +kernel
theorem d12_5 : decode method_3_code 5 = .ok (.aload_n 0, 1) := by decide +kernel
theorem d12_6 : decode method_3_code 6 = .ok (.iload_n 1, 1) := by decide +kernel
theorem d12_7 : decode method_3_code 7 = .ok (.iaload, 1) := by decide +kernel
theorem d12_8 : decode method_3_code 8 = .ok (.iload 4, 2) := by decide +kernel
theorem d12_10 : decode method_3_code 10 = .ok (.iload_n 1, 1) := by decide +kernel
theorem d12_11 : decode method_3_code 11 = .ok (.iadd, 1) := by decide +kernel
theorem d12_12 : decode method_3_code 12 = .ok (.if_icmp .ne 7, 3) := by decide +kernel
theorem d12_15 : decode method_3_code 15 = .ok (.iconst 1, 1) := by decide +kernel
theorem d12_16 : decode method_3_code 16 = .ok (.goto 4, 3) := by decide +kernel
theorem d12_20 : decode method_3_code 20 = .ok (.ireturn, 1) := by decide +kernel
theorem d12_21 : decode method_3_code 21 = .ok (.iload_n 1, 1) := by decide +kernel
theorem d12_22 : decode method_3_code 22 = .ok (.iload_n 2, 1) := by decide +kernel
theorem d12_23 : decode method_3_code 23 = .ok (.iconst 1, 1) := by decide +kernel
theorem d12_24 : decode method_3_code 24 = .ok (.isub, 1) := by decide +kernel
theorem d12_25 : decode method_3_code 25 = .ok (.if_icmp .ne 5, 3) := by decide +kernel
theorem d12_28 : decode method_3_code 28 = .ok (.iconst 1, 1) := by decide +kernel
theorem d12_29 : decode method_3_code 29 = .ok (.ireturn, 1) := by decide +kernel
theorem d12_30 : decode method_3_code 30 = .ok (.iload_n 1, 1) := by decide +kernel
theorem d12_31 : decode method_3_code 31 = .ok (.iload_n 3, 1) := by decide +kernel
theorem d12_32 : decode method_3_code 32 = .ok (.if_icmp .ne 12, 3) := by decide +kernel
theorem d12_35 : decode method_3_code 35 = .ok (.iload 4, 2) := by decide +kernel
theorem d12_37 : decode method_3_code 37 = .ok (.iload_n 2, 1) := by decide +kernel
theorem d12_38 : decode method_3_code 38 = .ok (.iconst 1, 1) := by decide +kernel
theorem d12_39 : decode method_3_code 39 = .ok (.isub, 1) := by decide +kernel
theorem d12_40 : decode method_3_code 40 = .ok (.iadd, 1) := by decide +kernel
theorem d12_41 : decode method_3_code 41 = .ok (.goto 7, 3) := by decide +kernel
theorem d12_44 : decode method_3_code 44 = .ok (.iload 4, 2) := by decide +kernel
theorem d12_46 : decode method_3_code 46 = .ok (.iload_n 1, 1) := by decide +kernel
theorem d12_47 : decode method_3_code 47 = .ok (.iadd, 1) := by decide +kernel
theorem d12_48 : decode method_3_code 48 = .ok (.istore 5, 2) := by decide +kernel
theorem d12_50 : decode method_3_code 50 = .ok (.aload_n 0, 1) := by decide +kernel
theorem d12_51 : decode method_3_code 51 = .ok (.iload_n 1, 1) := by decide +kernel
theorem d12_52 : decode method_3_code 52 = .ok (.iaload, 1) := by decide +kernel
theorem d12_53 : decode method_3_code 53 = .ok (.iload 5, 2) := by decide +kernel
theorem d12_55 : decode method_3_code 55 = .ok (.if_icmp .ne 7, 3) := by decide +kernel
theorem d12_58 : decode method_3_code 58 = .ok (.iconst 1, 1) := by decide +kernel
theorem d12_59 : decode method_3_code 59 = .ok (.goto 4, 3) := by decide +kernel
theorem d12_63 : decode method_3_code 63 = .ok (.ireturn, 1) := by decide +kernel
theorem d11_0 : decode prog_53_method_10_code 0 = .ok (.aload_n 0, 1) := by decide +kernel
theorem d11_1 : decode prog_53_method_10_code 1 = .ok (.getfield 37, 3) := by decide +kernel
theorem d11_4 : decode prog_53_method_10_code 4 = .ok (.iload_n 1, 1) := by decide +kernel
theorem d11_5 : decode prog_53_method_10_code 5 = .ok (.aload_n 0, 1) := by decide +kernel
theorem d11_6 : decode prog_53_method_10_code 6 = .ok (.getfield 58, 3) := by decide +kernel
theorem d11_9 : decode prog_53_method_10_code 9 = .ok (.iload_n 2, 1) := by decide +kernel
theorem d11_10 : decode prog_53_method_10_code 10 = .ok (.aaload, 1) := by decide +kernel
theorem d11_11 : decode prog_53_method_10_code 11 = .ok (.iload_n 3, 1) := by decide +kernel
theorem d11_12 : decode prog_53_method_10_code 12 = .ok (.iaload, 1) := by decide +kernel
theorem d11_13 : decode prog_53_method_10_code 13 = .ok (.iastore, 1) := by decide +kernel
theorem d11_14 : decode prog_53_method_10_code 14 = .ok (.aload_n 0, 1) := by decide +kernel
theorem d11_15 : decode prog_53_method_10_code 15 = .ok (.getfield 61, 3) := by decide +kernel
theorem d11_18 : decode prog_53_method_10_code 18 = .ok (.iload_n 2, 1) := by decide +kernel
theorem d11_19 : decode prog_53_method_10_code 19 = .ok (.dup2, 1) := by decide +kernel
theorem d11_20 : decode prog_53_method_10_code 20 = .ok (.iaload, 1) := by decide +kernel
theorem d11_21 : decode prog_53_method_10_code 21 = .ok (.iconst 1, 1) := by decide +kernel
theorem d11_22 : decode prog_53_method_10_code 22 = .ok (.isub, 1) := by decide +kernel
theorem d11_23 : decode prog_53_method_10_code 23 = .ok (.iastore, 1) := by decide +kernel
theorem d11_24 : decode prog_53_method_10_code 24 = .ok (.aload_n 0, 1) := by decide +kernel
theorem d11_25 : decode prog_53_method_10_code 25 = .ok (.getfield 58, 3) := by decide +kernel
theorem d11_28 : decode prog_53_method_10_code 28 = .ok (.iload_n 2, 1) := by decide +kernel
theorem d11_29 : decode prog_53_method_10_code 29 = .ok (.aaload, 1) := by decide +kernel
theorem d11_30 : decode prog_53_method_10_code 30 = .ok (.iload_n 3, 1) := by decide +kernel
theorem d11_31 : decode prog_53_method_10_code 31 = .ok (.aload_n 0, 1) := by decide +kernel
theorem d11_32 : decode prog_53_method_10_code 32 = .ok (.getfield 58, 3) := by decide +kernel
theorem d11_35 : decode prog_53_method_10_code 35 = .ok (.iload_n 2, 1) := by decide +kernel
theorem d11_36 : decode prog_53_method_10_code 36 = .ok (.aaload, 1) := by decide +kernel
theorem d11_37 : decode prog_53_method_10_code 37 = .ok (.aload_n 0, 1) := by decide +kernel
theorem d11_38 : decode prog_53_method_10_code 38 = .ok (.getfield 61, 3) := by decide +kernel
theorem d11_41 : decode prog_53_method_10_code 41 = .ok (.iload_n 2, 1) := by decide +kernel
theorem d11_42 : decode prog_53_method_10_code 42 = .ok (.iaload, 1) := by decide +kernel
theorem d11_43 : decode prog_53_method_10_code 43 = .ok (.iaload, 1) := by decide +kernel
theorem d11_44 : decode prog_53_method_10_code 44 = .ok (.iastore, 1) := by decide +kernel
theorem d11_45 : decode prog_53_method_10_code 45 = .ok (.return_, 1) := by decide +kernel
theorem pd_0 : parseMethodDescriptor "([III)I" = some ⟨[(.array .int), .int, .int], some .int⟩ := by decide +kernel
theorem pd_1 : parseMethodDescriptor "(III)V" = some ⟨[.int, .int, .int], none⟩ := by decide +kernel
theorem pd_2 : parseMethodDescriptor "([IIII)V" = some ⟨[(.array .int), .int, .int, .int], none⟩ := by decide +kernel
theorem pd_3 : parseMethodDescriptor "(II[I[I[I)V" = some ⟨[.int, .int, (.array .int), (.array .int), (.array .int)], none⟩ := by decide +kernel
theorem pd_4 : parseMethodDescriptor "()I" = some ⟨[], some .int⟩ := by decide +kernel
theorem pd_5 : parseMethodDescriptor "(I)I" = some ⟨[.int], some .int⟩ := by decide +kernel
theorem pd_6 : parseMethodDescriptor "(Lludarium/rules/BrutusSight;)V" = some ⟨[(.object "ludarium/rules/BrutusSight")], none⟩ := by decide +kernel
theorem pd_7 : parseMethodDescriptor "([IIIII)Z" = some ⟨[(.array .int), .int, .int, .int, .int], some .boolean⟩ := by decide +kernel
theorem pn_java_util_Arrays : plainName "java/util/Arrays" = true := by first | (simp [plainName, overriddenIn]; done) | decide +kernel
theorem pn_ludarium_rules_BrutusDeck : plainName "ludarium/rules/BrutusDeck" = true := by first | (simp [plainName, overriddenIn]; done) | decide +kernel
theorem pn_ludarium_rules_BrutusSight : plainName "ludarium/rules/BrutusSight" = true := by first | (simp [plainName, overriddenIn]; done) | decide +kernel
theorem pn_ludarium_rules_BrutusWalk : plainName "ludarium/rules/BrutusWalk" = true := by first | (simp [plainName, overriddenIn]; done) | decide +kernel
theorem pn_ludarium_rules_BrutusWalkTakePinLaw : plainName "ludarium/rules/BrutusWalkTakePinLaw" = true := by first | (simp [plainName, overriddenIn]; done) | decide +kernel
theorem ef_0 (m : MethodId) (x0 : Addr) : entryFrame m #[(.ref x0), (.int (3 : Int32)), (.int (0 : Int32))] 5 = mkF m 0 #[.val (.ref x0), .val (.int (3 : Int32)), .val (.int (0 : Int32)), .unset, .unset] [] := by first | (simp [entryFrame, mkF, argsToLocals, Value.category]; done) | rfl
theorem ef_1 (m : MethodId)  : entryFrame m #[(.int (3 : Int32)), (.int (0 : Int32)), (.int (1 : Int32))] 3 = mkF m 0 #[.val (.int (3 : Int32)), .val (.int (0 : Int32)), .val (.int (1 : Int32))] [] := by first | (simp [entryFrame, mkF, argsToLocals, Value.category]; done) | rfl
theorem ef_2 (m : MethodId) (x0 : Addr) : entryFrame m #[(.ref x0), (.int (0 : Int32)), (.int (1 : Int32)), (.int (0 : Int32))] 5 = mkF m 0 #[.val (.ref x0), .val (.int (0 : Int32)), .val (.int (1 : Int32)), .val (.int (0 : Int32)), .unset] [] := by first | (simp [entryFrame, mkF, argsToLocals, Value.category]; done) | rfl
theorem ef_3 (m : MethodId) (x0 : Addr) : entryFrame m #[(.ref x0), (.int (0 : Int32)), (.int (1 : Int32)), (.int (1 : Int32))] 5 = mkF m 0 #[.val (.ref x0), .val (.int (0 : Int32)), .val (.int (1 : Int32)), .val (.int (1 : Int32)), .unset] [] := by first | (simp [entryFrame, mkF, argsToLocals, Value.category]; done) | rfl
theorem ef_4 (m : MethodId) (x0 : Addr) : entryFrame m #[(.ref x0), (.int (3 : Int32)), (.int (1 : Int32))] 5 = mkF m 0 #[.val (.ref x0), .val (.int (3 : Int32)), .val (.int (1 : Int32)), .unset, .unset] [] := by first | (simp [entryFrame, mkF, argsToLocals, Value.category]; done) | rfl
theorem ef_5 (m : MethodId)  : entryFrame m #[(.int (3 : Int32)), (.int (1 : Int32)), (.int (2 : Int32))] 3 = mkF m 0 #[.val (.int (3 : Int32)), .val (.int (1 : Int32)), .val (.int (2 : Int32))] [] := by first | (simp [entryFrame, mkF, argsToLocals, Value.category]; done) | rfl
theorem ef_6 (m : MethodId) (x0 : Addr) : entryFrame m #[(.ref x0), (.int (1 : Int32)), (.int (2 : Int32)), (.int (1 : Int32))] 5 = mkF m 0 #[.val (.ref x0), .val (.int (1 : Int32)), .val (.int (2 : Int32)), .val (.int (1 : Int32)), .unset] [] := by first | (simp [entryFrame, mkF, argsToLocals, Value.category]; done) | rfl
theorem ef_7 (m : MethodId) (x0 : Addr) : entryFrame m #[(.ref x0), (.int (1 : Int32)), (.int (2 : Int32)), (.int (2 : Int32))] 5 = mkF m 0 #[.val (.ref x0), .val (.int (1 : Int32)), .val (.int (2 : Int32)), .val (.int (2 : Int32)), .unset] [] := by first | (simp [entryFrame, mkF, argsToLocals, Value.category]; done) | rfl
theorem ef_8 (m : MethodId) (x0 : Addr) : entryFrame m #[(.ref x0), (.int (3 : Int32)), (.int (2 : Int32))] 5 = mkF m 0 #[.val (.ref x0), .val (.int (3 : Int32)), .val (.int (2 : Int32)), .unset, .unset] [] := by first | (simp [entryFrame, mkF, argsToLocals, Value.category]; done) | rfl
theorem ef_9 (m : MethodId)  : entryFrame m #[(.int (3 : Int32)), (.int (2 : Int32)), (.int (3 : Int32))] 3 = mkF m 0 #[.val (.int (3 : Int32)), .val (.int (2 : Int32)), .val (.int (3 : Int32))] [] := by first | (simp [entryFrame, mkF, argsToLocals, Value.category]; done) | rfl
theorem ef_10 (m : MethodId) (x0 : Addr) : entryFrame m #[(.ref x0), (.int (2 : Int32)), (.int (3 : Int32)), (.int (2 : Int32))] 5 = mkF m 0 #[.val (.ref x0), .val (.int (2 : Int32)), .val (.int (3 : Int32)), .val (.int (2 : Int32)), .unset] [] := by first | (simp [entryFrame, mkF, argsToLocals, Value.category]; done) | rfl
theorem ef_11 (m : MethodId) (x0 : Addr) : entryFrame m #[(.ref x0), (.int (2 : Int32)), (.int (3 : Int32)), (.int (3 : Int32))] 5 = mkF m 0 #[.val (.ref x0), .val (.int (2 : Int32)), .val (.int (3 : Int32)), .val (.int (3 : Int32)), .unset] [] := by first | (simp [entryFrame, mkF, argsToLocals, Value.category]; done) | rfl
theorem ef_12 (m : MethodId) (x0 : Addr) (x1 : Addr) (x2 : Addr) (x3 : Addr) : entryFrame m #[(.ref x0), (.int (0 : Int32)), (.int (1 : Int32)), (.ref x1), (.ref x2), (.ref x3)] 8 = mkF m 0 #[.val (.ref x0), .val (.int (0 : Int32)), .val (.int (1 : Int32)), .val (.ref x1), .val (.ref x2), .val (.ref x3), .unset, .unset] [] := by first | (simp [entryFrame, mkF, argsToLocals, Value.category]; done) | rfl
theorem ef_13 (m : MethodId) (x0 : Addr) : entryFrame m #[(.ref x0)] 1 = mkF m 0 #[.val (.ref x0)] [] := by first | (simp [entryFrame, mkF, argsToLocals, Value.category]; done) | rfl
theorem ef_14 (m : MethodId) (x0 : Addr) : entryFrame m #[(.ref x0), (.int (0 : Int32))] 2 = mkF m 0 #[.val (.ref x0), .val (.int (0 : Int32))] [] := by first | (simp [entryFrame, mkF, argsToLocals, Value.category]; done) | rfl
theorem ef_15 (m : MethodId) (x0 : Addr) : entryFrame m #[(.ref x0), (.int (1 : Int32))] 2 = mkF m 0 #[.val (.ref x0), .val (.int (1 : Int32))] [] := by first | (simp [entryFrame, mkF, argsToLocals, Value.category]; done) | rfl
theorem ef_16 (m : MethodId)  : entryFrame m #[(.int (4 : Int32)), (.int (0 : Int32)), (.int (2 : Int32))] 3 = mkF m 0 #[.val (.int (4 : Int32)), .val (.int (0 : Int32)), .val (.int (2 : Int32))] [] := by first | (simp [entryFrame, mkF, argsToLocals, Value.category]; done) | rfl
theorem ef_17 (m : MethodId) (x0 : Addr) : entryFrame m #[(.ref x0), (.int (0 : Int32)), (.int (2 : Int32)), (.int (0 : Int32))] 5 = mkF m 0 #[.val (.ref x0), .val (.int (0 : Int32)), .val (.int (2 : Int32)), .val (.int (0 : Int32)), .unset] [] := by first | (simp [entryFrame, mkF, argsToLocals, Value.category]; done) | rfl
theorem ef_18 (m : MethodId)  : entryFrame m #[(.int (4 : Int32)), (.int (2 : Int32)), (.int (4 : Int32))] 3 = mkF m 0 #[.val (.int (4 : Int32)), .val (.int (2 : Int32)), .val (.int (4 : Int32))] [] := by first | (simp [entryFrame, mkF, argsToLocals, Value.category]; done) | rfl
theorem ef_19 (m : MethodId) (x0 : Addr) : entryFrame m #[(.ref x0), (.int (2 : Int32)), (.int (4 : Int32)), (.int (1 : Int32))] 5 = mkF m 0 #[.val (.ref x0), .val (.int (2 : Int32)), .val (.int (4 : Int32)), .val (.int (1 : Int32)), .unset] [] := by first | (simp [entryFrame, mkF, argsToLocals, Value.category]; done) | rfl
theorem ef_20 (m : MethodId) (x0 : Addr) (x1 : Addr) : entryFrame m #[(.ref x0), (.ref x1)] 6 = mkF m 0 #[.val (.ref x0), .val (.ref x1), .unset, .unset, .unset, .unset] [] := by first | (simp [entryFrame, mkF, argsToLocals, Value.category]; done) | rfl
theorem ef_21 (m : MethodId) (x0 : Addr) (x1 : Int32) (x2 : Int32) (x3 : Int32) : entryFrame m #[(.ref x0), (.int (0 : Int32)), (.int x1), (.int x2), (.int x3)] 6 = mkF m 0 #[.val (.ref x0), .val (.int (0 : Int32)), .val (.int x1), .val (.int x2), .val (.int x3), .unset] [] := by first | (simp [entryFrame, mkF, argsToLocals, Value.category]; done) | rfl
theorem ef_22 (m : MethodId) (x0 : Addr) (x1 : Int32) (x2 : Int32) (x3 : Int32) : entryFrame m #[(.ref x0), (.int (1 : Int32)), (.int x1), (.int x2), (.int x3)] 6 = mkF m 0 #[.val (.ref x0), .val (.int (1 : Int32)), .val (.int x1), .val (.int x2), .val (.int x3), .unset] [] := by first | (simp [entryFrame, mkF, argsToLocals, Value.category]; done) | rfl
theorem ef_23 (m : MethodId) (x0 : Addr) (x1 : Int32) (x2 : Int32) (x3 : Int32) : entryFrame m #[(.ref x0), (.int (2 : Int32)), (.int x1), (.int x2), (.int x3)] 6 = mkF m 0 #[.val (.ref x0), .val (.int (2 : Int32)), .val (.int x1), .val (.int x2), .val (.int x3), .unset] [] := by first | (simp [entryFrame, mkF, argsToLocals, Value.category]; done) | rfl
theorem ef_24 (m : MethodId) (x0 : Addr) (x1 : Int32) (x2 : Int32) (x3 : Int32) : entryFrame m #[(.ref x0), (.int (3 : Int32)), (.int x1), (.int x2), (.int x3)] 6 = mkF m 0 #[.val (.ref x0), .val (.int (3 : Int32)), .val (.int x1), .val (.int x2), .val (.int x3), .unset] [] := by first | (simp [entryFrame, mkF, argsToLocals, Value.category]; done) | rfl
theorem ef_25 (m : MethodId) (x0 : Addr) (x1 : Int32) : entryFrame m #[(.ref x0), (.int x1), (.int (0 : Int32)), (.int (0 : Int32))] 4 = mkF m 0 #[.val (.ref x0), .val (.int x1), .val (.int (0 : Int32)), .val (.int (0 : Int32))] [] := by first | (simp [entryFrame, mkF, argsToLocals, Value.category]; done) | rfl
theorem ef_26 (m : MethodId) (x0 : Addr) (x1 : Int32) : entryFrame m #[(.ref x0), (.int x1), (.int (0 : Int32)), (.int (1 : Int32))] 4 = mkF m 0 #[.val (.ref x0), .val (.int x1), .val (.int (0 : Int32)), .val (.int (1 : Int32))] [] := by first | (simp [entryFrame, mkF, argsToLocals, Value.category]; done) | rfl
theorem ef_27 (m : MethodId) (x0 : Addr) (x1 : Int32) : entryFrame m #[(.ref x0), (.int x1), (.int (0 : Int32)), (.int (2 : Int32))] 4 = mkF m 0 #[.val (.ref x0), .val (.int x1), .val (.int (0 : Int32)), .val (.int (2 : Int32))] [] := by first | (simp [entryFrame, mkF, argsToLocals, Value.category]; done) | rfl
theorem ef_28 (m : MethodId) (x0 : Addr) (x1 : Int32) : entryFrame m #[(.ref x0), (.int x1), (.int (0 : Int32)), (.int (3 : Int32))] 4 = mkF m 0 #[.val (.ref x0), .val (.int x1), .val (.int (0 : Int32)), .val (.int (3 : Int32))] [] := by first | (simp [entryFrame, mkF, argsToLocals, Value.category]; done) | rfl
theorem ef_29 (m : MethodId) (x0 : Addr) (x1 : Int32) : entryFrame m #[(.ref x0), (.int x1), (.int (1 : Int32)), (.int (0 : Int32))] 4 = mkF m 0 #[.val (.ref x0), .val (.int x1), .val (.int (1 : Int32)), .val (.int (0 : Int32))] [] := by first | (simp [entryFrame, mkF, argsToLocals, Value.category]; done) | rfl
theorem ef_30 (m : MethodId) (x0 : Addr) (x1 : Int32) : entryFrame m #[(.ref x0), (.int x1), (.int (1 : Int32)), (.int (1 : Int32))] 4 = mkF m 0 #[.val (.ref x0), .val (.int x1), .val (.int (1 : Int32)), .val (.int (1 : Int32))] [] := by first | (simp [entryFrame, mkF, argsToLocals, Value.category]; done) | rfl
theorem ef_31 (m : MethodId) (x0 : Addr) (x1 : Int32) : entryFrame m #[(.ref x0), (.int x1), (.int (1 : Int32)), (.int (2 : Int32))] 4 = mkF m 0 #[.val (.ref x0), .val (.int x1), .val (.int (1 : Int32)), .val (.int (2 : Int32))] [] := by first | (simp [entryFrame, mkF, argsToLocals, Value.category]; done) | rfl
theorem ef_32 (m : MethodId) (x0 : Addr) (x1 : Int32) : entryFrame m #[(.ref x0), (.int x1), (.int (1 : Int32)), (.int (3 : Int32))] 4 = mkF m 0 #[.val (.ref x0), .val (.int x1), .val (.int (1 : Int32)), .val (.int (3 : Int32))] [] := by first | (simp [entryFrame, mkF, argsToLocals, Value.category]; done) | rfl
theorem ef_33 (m : MethodId) (x0 : Int32) (x1 : Int32) (x2 : Int32) (x3 : Int32) (x4 : Int32) : entryFrame m #[(.int x0), (.int x1), (.int x2), (.int x3), (.int x4)] maxLocals = mkF m 0 #[.val (.int x0), .val (.int x1), .val (.int x2), .val (.int x3), .val (.int x4), .unset, .unset, .unset, .unset, .unset, .unset, .unset, .unset, .unset, .unset] [] := by first | (simp [entryFrame, mkF, argsToLocals, Value.category, maxLocals]; done) | rfl
set_option maxRecDepth 65536 in
set_option maxHeartbeats 40000000 in
theorem rm3_0 (l : Launch) {Z : State} {a0 : Array Value} (H : Hyp Z a0) (a1 : Addr) (k1 : ClassId) (h0 : Heap) (Ol : Old Z Z.heap.size h0) (A_1 : Arv Z h0 a1 k1 .int (3 : Int32) [(.int (0 : Int32)), (.int (0 : Int32)), (.int (0 : Int32))] (.int (0 : Int32))) :
    Mt l Z (⟨"ludarium/rules/BrutusDeck", "runEnd", "([III)I"⟩ : MethodName) prog_18_method_31_code 5 (some .int) [] ({ frames := 0, cells := 0, slots := 0, locals := 0 } : Room) #[(.ref a1), (.int (3 : Int32)), (.int (0 : Int32))] h0 (fun v h L => (v = some (.int (1 : Int32)) ∧ Fr Z.heap.size L ∧ h = h0)) := by
  refine g_body (plainFor_of_name pn_ludarium_rules_BrutusDeck) ?_
  intro p e s m below meth c T0 K X0 e0
  refine g_entry (ef_0 m a1) ?_
  have N0 : Fr Z.heap.size [] := Fr.nil _
  have Ol0 := Ol
  have Kp0 : Keep h0 h0 [] := Keep.refl h0 _
  refine g_aloadN X0 K (q := 1) d3_0 rfl rfl rfl ?_
  refine g_iloadN X0 K (q := 2) d3_1 rfl rfl ?_
  refine g_iald X0 K (q := 3) (v := (.int (0 : Int32))) e0 A_1 (by decide) rfl d3_2 rfl ?_
  refine g_istoreN X0 K (q := 4) (L' := #[.val (.ref a1), .val (.int (3 : Int32)), .val (.int (0 : Int32)), .val (.int (0 : Int32)), .unset]) d3_3 rfl rfl ?_
  refine g_iloadN X0 K (q := 5) d3_4 rfl rfl ?_
  refine g_iconst X0 K (q := 6) (v := (1 : Int32)) d3_5 (by decide) rfl ?_
  refine g_iadd X0 K (q := 7) d3_6 (z := (1 : Int32)) (by decide) rfl ?_
  refine g_istore X0 K (q := 9) (L' := #[.val (.ref a1), .val (.int (3 : Int32)), .val (.int (0 : Int32)), .val (.int (0 : Int32)), .val (.int (1 : Int32))]) d3_7 rfl rfl ?_
  refine g_iloadN X0 K (q := 10) d3_9 rfl rfl ?_
  refine g_sipush X0 K (q := 13) (v := (16384 : Int32)) d3_10 (by decide) rfl ?_
  refine g_iand X0 K (q := 14) d3_13 (z := (0 : Int32)) (by decide) rfl ?_
  refine g_ifY X0 K (q := 54) d3_14 (by decide) (by decide) (by decide) ?_
  refine g_iload X0 K (q := 56) d3_54 rfl rfl ?_
  refine g_iloadN X0 K (q := 57) d3_56 rfl rfl ?_
  refine g_icN X0 K (q := 60) d3_57 (by decide) rfl ?_
  refine g_aloadN X0 K (q := 61) d3_60 rfl rfl rfl ?_
  refine g_iload X0 K (q := 63) d3_61 rfl rfl ?_
  refine g_iconst X0 K (q := 64) (v := (1 : Int32)) d3_63 (by decide) rfl ?_
  refine g_isub X0 K (q := 65) d3_64 (z := (0 : Int32)) (by decide) rfl ?_
  refine g_iald X0 K (q := 66) (v := (.int (0 : Int32))) e0 A_1 (by decide) rfl d3_65 rfl ?_
  refine g_sipush X0 K (q := 69) (v := (8192 : Int32)) d3_66 (by decide) rfl ?_
  refine g_iand X0 K (q := 70) d3_69 (z := (0 : Int32)) (by decide) rfl ?_
  refine g_ifY X0 K (q := 79) d3_70 (by decide) (by decide) (by decide) ?_
  refine g_iload X0 K (q := 81) d3_79 rfl rfl ?_
  refine g_iret X0 K d3_81 (by decide) (by decide) ?_
  exact ⟨rfl, N0, e0⟩
set_option maxRecDepth 65536 in
set_option maxHeartbeats 40000000 in
theorem rm5_1 (l : Launch) {Z : State} {a0 : Array Value} (H : Hyp Z a0) (h0 : Heap) (Ol : Old Z Z.heap.size h0) :
    Mt l Z (⟨"java/util/Arrays", "rangeCheck", "(III)V"⟩ : MethodName) jdk_65_method_30_code 3 none [] ({ frames := 0, cells := 0, slots := 0, locals := 0 } : Room) #[(.int (3 : Int32)), (.int (0 : Int32)), (.int (1 : Int32))] h0 (fun v h L => (v = none ∧ Fr Z.heap.size L ∧ h = h0)) := by
  refine g_body (plainFor_of_name pn_java_util_Arrays) ?_
  intro p e s m below meth c T0 K X0 e0
  refine g_entry (ef_1 m) ?_
  have N0 : Fr Z.heap.size [] := Fr.nil _
  have Ol0 := Ol
  have Kp0 : Keep h0 h0 [] := Keep.refl h0 _
  refine g_iloadN X0 K (q := 1) d5_0 rfl rfl ?_
  refine g_iloadN X0 K (q := 2) d5_1 rfl rfl ?_
  refine g_icY X0 K (q := 46) d5_2 (by decide) (by decide) (by decide) ?_
  refine g_iloadN X0 K (q := 47) d5_46 rfl rfl ?_
  refine g_ifY X0 K (q := 59) d5_47 (by decide) (by decide) (by decide) ?_
  refine g_iloadN X0 K (q := 60) d5_59 rfl rfl ?_
  refine g_iloadN X0 K (q := 61) d5_60 rfl rfl ?_
  refine g_icY X0 K (q := 73) d5_61 (by decide) (by decide) (by decide) ?_
  refine g_ret X0 K d5_73 (by decide) (by decide) ?_
  exact ⟨rfl, N0, e0⟩
set_option maxRecDepth 65536 in
set_option maxHeartbeats 40000000 in
theorem rm4_2 (l : Launch) {Z : State} {a0 : Array Value} (H : Hyp Z a0) (a1 : Addr) (k1 : ClassId) (h0 : Heap) (Ol : Old Z Z.heap.size h0) (A_1 : Arv Z h0 a1 k1 .int (3 : Int32) [(.int (0 : Int32)), (.int (0 : Int32)), (.int (0 : Int32))] (.int (0 : Int32))) (ge_1 : Z.heap.size ≤ a1) :
    Mt l Z (⟨"java/util/Arrays", "fill", "([IIII)V"⟩ : MethodName) jdk_65_method_104_code 5 none [] ({ frames := 1, cells := 0, slots := 0, locals := 14 } : Room) #[(.ref a1), (.int (0 : Int32)), (.int (1 : Int32)), (.int (0 : Int32))] h0 (fun v h L => (v = none ∧ Fr Z.heap.size L ∧ Keep h0 h [a1] ∧ Arv Z h a1 k1 .int (3 : Int32) [(.int (0 : Int32)), (.int (0 : Int32)), (.int (0 : Int32))] (.int (0 : Int32)))) := by
  refine g_body (plainFor_of_name pn_java_util_Arrays) ?_
  intro p e s m below meth c T0 K X0 e0
  refine g_entry (ef_2 m a1) ?_
  have N0 : Fr Z.heap.size [] := Fr.nil _
  have Ol0 := Ol
  have Kp0 : Keep h0 h0 [a1] := Keep.refl h0 _
  refine g_aloadN X0 K (q := 1) d4_0 rfl rfl rfl ?_
  refine g_len X0 K (q := 2) e0 A_1 d4_1 rfl ?_
  refine g_iloadN X0 K (q := 3) d4_2 rfl rfl ?_
  refine g_iloadN X0 K (q := 4) d4_3 rfl rfl ?_
  refine g_static X0 K (q := 7) (W := 0) (w32 H) (w33 H) (w30 H) (w34 H) (by decide) (rm5_1 l H h0 Ol0) e0 rfl (argsL := [(.int (3 : Int32)), (.int (0 : Int32)), (.int (1 : Int32))]) (rest := []) (lenOf pd_1 rfl) rfl rfl (Nat.le_of_eq rfl) d4_4 (by decide) (by decide) (by decide) (by decide) rfl ?_
  rintro T1 v1 L1 X1 ⟨rfl, N1q, e1⟩
  have N1 := Fr.app N0 N1q
  show Go p e below _ T1 (mkF m 7 #[.val (.ref a1), .val (.int (0 : Int32)), .val (.int (1 : Int32)), .val (.int (0 : Int32)), .unset] [])
  refine g_iloadN X1 K (q := 8) d4_7 rfl rfl ?_
  refine g_istore X1 K (q := 10) (L' := #[.val (.ref a1), .val (.int (0 : Int32)), .val (.int (1 : Int32)), .val (.int (0 : Int32)), .val (.int (0 : Int32))]) d4_8 rfl rfl ?_
  refine g_iload X1 K (q := 12) d4_10 rfl rfl ?_
  refine g_iloadN X1 K (q := 13) d4_12 rfl rfl ?_
  refine g_icN X1 K (q := 16) d4_13 (by decide) rfl ?_
  refine g_aloadN X1 K (q := 17) d4_16 rfl rfl rfl ?_
  refine g_iload X1 K (q := 19) d4_17 rfl rfl ?_
  refine g_iloadN X1 K (q := 20) d4_19 rfl rfl ?_
  refine g_iast X1 K (q := 21) (vs' := [(.int (0 : Int32)), (.int (0 : Int32)), (.int (0 : Int32))]) e1 A_1 (by decide) (Nat.le_of_ble_eq_true rfl) rfl d4_20 rfl ?_
  intro T2 h2 X2 e2 W2 F2
  have N2 := Fr.snoc X2 N1 ge_1
  have Ol2 := Ol0.wr W2 ge_1
  have Kp2 := Kp0.wr W2 (Or.inl (List.mem_of_getElem? (i := 0) rfl))
  refine g_iinc X2 K (q := 24) (z := (1 : Int32)) (L' := #[.val (.ref a1), .val (.int (0 : Int32)), .val (.int (1 : Int32)), .val (.int (0 : Int32)), .val (.int (1 : Int32))]) d4_21 rfl (by decide) rfl rfl ?_
  refine g_goto X2 K (q := 10) d4_24 (by decide) (by decide) ?_
  refine g_iload X2 K (q := 12) d4_10 rfl rfl ?_
  refine g_iloadN X2 K (q := 13) d4_12 rfl rfl ?_
  refine g_icY X2 K (q := 27) d4_13 (by decide) (by decide) (by decide) ?_
  refine g_ret X2 K d4_27 (by decide) (by decide) ?_
  have Kp : Keep h0 T2.heap [a1] := by rw [e2]; exact Kp2
  exact ⟨rfl, N2, Kp, (by rw [e2]; exact F2)⟩
set_option maxRecDepth 65536 in
set_option maxHeartbeats 40000000 in
theorem rm4_3 (l : Launch) {Z : State} {a0 : Array Value} (H : Hyp Z a0) (a1 : Addr) (k1 : ClassId) (h0 : Heap) (Ol : Old Z Z.heap.size h0) (A_1 : Arv Z h0 a1 k1 .int (3 : Int32) [(.int (0 : Int32)), (.int (0 : Int32)), (.int (0 : Int32))] (.int (0 : Int32))) (ge_1 : Z.heap.size ≤ a1) :
    Mt l Z (⟨"java/util/Arrays", "fill", "([IIII)V"⟩ : MethodName) jdk_65_method_104_code 5 none [] ({ frames := 1, cells := 0, slots := 0, locals := 14 } : Room) #[(.ref a1), (.int (0 : Int32)), (.int (1 : Int32)), (.int (1 : Int32))] h0 (fun v h L => (v = none ∧ Fr Z.heap.size L ∧ Keep h0 h [a1] ∧ Arv Z h a1 k1 .int (3 : Int32) [(.int (1 : Int32)), (.int (0 : Int32)), (.int (0 : Int32))] (.int (0 : Int32)))) := by
  refine g_body (plainFor_of_name pn_java_util_Arrays) ?_
  intro p e s m below meth c T0 K X0 e0
  refine g_entry (ef_3 m a1) ?_
  have N0 : Fr Z.heap.size [] := Fr.nil _
  have Ol0 := Ol
  have Kp0 : Keep h0 h0 [a1] := Keep.refl h0 _
  refine g_aloadN X0 K (q := 1) d4_0 rfl rfl rfl ?_
  refine g_len X0 K (q := 2) e0 A_1 d4_1 rfl ?_
  refine g_iloadN X0 K (q := 3) d4_2 rfl rfl ?_
  refine g_iloadN X0 K (q := 4) d4_3 rfl rfl ?_
  refine g_static X0 K (q := 7) (W := 0) (w32 H) (w33 H) (w30 H) (w34 H) (by decide) (rm5_1 l H h0 Ol0) e0 rfl (argsL := [(.int (3 : Int32)), (.int (0 : Int32)), (.int (1 : Int32))]) (rest := []) (lenOf pd_1 rfl) rfl rfl (Nat.le_of_eq rfl) d4_4 (by decide) (by decide) (by decide) (by decide) rfl ?_
  rintro T1 v1 L1 X1 ⟨rfl, N1q, e1⟩
  have N1 := Fr.app N0 N1q
  show Go p e below _ T1 (mkF m 7 #[.val (.ref a1), .val (.int (0 : Int32)), .val (.int (1 : Int32)), .val (.int (1 : Int32)), .unset] [])
  refine g_iloadN X1 K (q := 8) d4_7 rfl rfl ?_
  refine g_istore X1 K (q := 10) (L' := #[.val (.ref a1), .val (.int (0 : Int32)), .val (.int (1 : Int32)), .val (.int (1 : Int32)), .val (.int (0 : Int32))]) d4_8 rfl rfl ?_
  refine g_iload X1 K (q := 12) d4_10 rfl rfl ?_
  refine g_iloadN X1 K (q := 13) d4_12 rfl rfl ?_
  refine g_icN X1 K (q := 16) d4_13 (by decide) rfl ?_
  refine g_aloadN X1 K (q := 17) d4_16 rfl rfl rfl ?_
  refine g_iload X1 K (q := 19) d4_17 rfl rfl ?_
  refine g_iloadN X1 K (q := 20) d4_19 rfl rfl ?_
  refine g_iast X1 K (q := 21) (vs' := [(.int (1 : Int32)), (.int (0 : Int32)), (.int (0 : Int32))]) e1 A_1 (by decide) (Nat.le_of_ble_eq_true rfl) rfl d4_20 rfl ?_
  intro T2 h2 X2 e2 W2 F2
  have N2 := Fr.snoc X2 N1 ge_1
  have Ol2 := Ol0.wr W2 ge_1
  have Kp2 := Kp0.wr W2 (Or.inl (List.mem_of_getElem? (i := 0) rfl))
  refine g_iinc X2 K (q := 24) (z := (1 : Int32)) (L' := #[.val (.ref a1), .val (.int (0 : Int32)), .val (.int (1 : Int32)), .val (.int (1 : Int32)), .val (.int (1 : Int32))]) d4_21 rfl (by decide) rfl rfl ?_
  refine g_goto X2 K (q := 10) d4_24 (by decide) (by decide) ?_
  refine g_iload X2 K (q := 12) d4_10 rfl rfl ?_
  refine g_iloadN X2 K (q := 13) d4_12 rfl rfl ?_
  refine g_icY X2 K (q := 27) d4_13 (by decide) (by decide) (by decide) ?_
  refine g_ret X2 K d4_27 (by decide) (by decide) ?_
  have Kp : Keep h0 T2.heap [a1] := by rw [e2]; exact Kp2
  exact ⟨rfl, N2, Kp, (by rw [e2]; exact F2)⟩
set_option maxRecDepth 65536 in
set_option maxHeartbeats 40000000 in
theorem rm3_4 (l : Launch) {Z : State} {a0 : Array Value} (H : Hyp Z a0) (a1 : Addr) (k1 : ClassId) (h0 : Heap) (Ol : Old Z Z.heap.size h0) (A_1 : Arv Z h0 a1 k1 .int (3 : Int32) [(.int (0 : Int32)), (.int (0 : Int32)), (.int (0 : Int32))] (.int (0 : Int32))) :
    Mt l Z (⟨"ludarium/rules/BrutusDeck", "runEnd", "([III)I"⟩ : MethodName) prog_18_method_31_code 5 (some .int) [] ({ frames := 0, cells := 0, slots := 0, locals := 0 } : Room) #[(.ref a1), (.int (3 : Int32)), (.int (1 : Int32))] h0 (fun v h L => (v = some (.int (2 : Int32)) ∧ Fr Z.heap.size L ∧ h = h0)) := by
  refine g_body (plainFor_of_name pn_ludarium_rules_BrutusDeck) ?_
  intro p e s m below meth c T0 K X0 e0
  refine g_entry (ef_4 m a1) ?_
  have N0 : Fr Z.heap.size [] := Fr.nil _
  have Ol0 := Ol
  have Kp0 : Keep h0 h0 [] := Keep.refl h0 _
  refine g_aloadN X0 K (q := 1) d3_0 rfl rfl rfl ?_
  refine g_iloadN X0 K (q := 2) d3_1 rfl rfl ?_
  refine g_iald X0 K (q := 3) (v := (.int (0 : Int32))) e0 A_1 (by decide) rfl d3_2 rfl ?_
  refine g_istoreN X0 K (q := 4) (L' := #[.val (.ref a1), .val (.int (3 : Int32)), .val (.int (1 : Int32)), .val (.int (0 : Int32)), .unset]) d3_3 rfl rfl ?_
  refine g_iloadN X0 K (q := 5) d3_4 rfl rfl ?_
  refine g_iconst X0 K (q := 6) (v := (1 : Int32)) d3_5 (by decide) rfl ?_
  refine g_iadd X0 K (q := 7) d3_6 (z := (2 : Int32)) (by decide) rfl ?_
  refine g_istore X0 K (q := 9) (L' := #[.val (.ref a1), .val (.int (3 : Int32)), .val (.int (1 : Int32)), .val (.int (0 : Int32)), .val (.int (2 : Int32))]) d3_7 rfl rfl ?_
  refine g_iloadN X0 K (q := 10) d3_9 rfl rfl ?_
  refine g_sipush X0 K (q := 13) (v := (16384 : Int32)) d3_10 (by decide) rfl ?_
  refine g_iand X0 K (q := 14) d3_13 (z := (0 : Int32)) (by decide) rfl ?_
  refine g_ifY X0 K (q := 54) d3_14 (by decide) (by decide) (by decide) ?_
  refine g_iload X0 K (q := 56) d3_54 rfl rfl ?_
  refine g_iloadN X0 K (q := 57) d3_56 rfl rfl ?_
  refine g_icN X0 K (q := 60) d3_57 (by decide) rfl ?_
  refine g_aloadN X0 K (q := 61) d3_60 rfl rfl rfl ?_
  refine g_iload X0 K (q := 63) d3_61 rfl rfl ?_
  refine g_iconst X0 K (q := 64) (v := (1 : Int32)) d3_63 (by decide) rfl ?_
  refine g_isub X0 K (q := 65) d3_64 (z := (1 : Int32)) (by decide) rfl ?_
  refine g_iald X0 K (q := 66) (v := (.int (0 : Int32))) e0 A_1 (by decide) rfl d3_65 rfl ?_
  refine g_sipush X0 K (q := 69) (v := (8192 : Int32)) d3_66 (by decide) rfl ?_
  refine g_iand X0 K (q := 70) d3_69 (z := (0 : Int32)) (by decide) rfl ?_
  refine g_ifY X0 K (q := 79) d3_70 (by decide) (by decide) (by decide) ?_
  refine g_iload X0 K (q := 81) d3_79 rfl rfl ?_
  refine g_iret X0 K d3_81 (by decide) (by decide) ?_
  exact ⟨rfl, N0, e0⟩
set_option maxRecDepth 65536 in
set_option maxHeartbeats 40000000 in
theorem rm5_5 (l : Launch) {Z : State} {a0 : Array Value} (H : Hyp Z a0) (h0 : Heap) (Ol : Old Z Z.heap.size h0) :
    Mt l Z (⟨"java/util/Arrays", "rangeCheck", "(III)V"⟩ : MethodName) jdk_65_method_30_code 3 none [] ({ frames := 0, cells := 0, slots := 0, locals := 0 } : Room) #[(.int (3 : Int32)), (.int (1 : Int32)), (.int (2 : Int32))] h0 (fun v h L => (v = none ∧ Fr Z.heap.size L ∧ h = h0)) := by
  refine g_body (plainFor_of_name pn_java_util_Arrays) ?_
  intro p e s m below meth c T0 K X0 e0
  refine g_entry (ef_5 m) ?_
  have N0 : Fr Z.heap.size [] := Fr.nil _
  have Ol0 := Ol
  have Kp0 : Keep h0 h0 [] := Keep.refl h0 _
  refine g_iloadN X0 K (q := 1) d5_0 rfl rfl ?_
  refine g_iloadN X0 K (q := 2) d5_1 rfl rfl ?_
  refine g_icY X0 K (q := 46) d5_2 (by decide) (by decide) (by decide) ?_
  refine g_iloadN X0 K (q := 47) d5_46 rfl rfl ?_
  refine g_ifY X0 K (q := 59) d5_47 (by decide) (by decide) (by decide) ?_
  refine g_iloadN X0 K (q := 60) d5_59 rfl rfl ?_
  refine g_iloadN X0 K (q := 61) d5_60 rfl rfl ?_
  refine g_icY X0 K (q := 73) d5_61 (by decide) (by decide) (by decide) ?_
  refine g_ret X0 K d5_73 (by decide) (by decide) ?_
  exact ⟨rfl, N0, e0⟩
set_option maxRecDepth 65536 in
set_option maxHeartbeats 40000000 in
theorem rm4_6 (l : Launch) {Z : State} {a0 : Array Value} (H : Hyp Z a0) (a1 : Addr) (k1 : ClassId) (h0 : Heap) (Ol : Old Z Z.heap.size h0) (A_1 : Arv Z h0 a1 k1 .int (3 : Int32) [(.int (0 : Int32)), (.int (0 : Int32)), (.int (0 : Int32))] (.int (0 : Int32))) (ge_1 : Z.heap.size ≤ a1) :
    Mt l Z (⟨"java/util/Arrays", "fill", "([IIII)V"⟩ : MethodName) jdk_65_method_104_code 5 none [] ({ frames := 1, cells := 0, slots := 0, locals := 14 } : Room) #[(.ref a1), (.int (1 : Int32)), (.int (2 : Int32)), (.int (1 : Int32))] h0 (fun v h L => (v = none ∧ Fr Z.heap.size L ∧ Keep h0 h [a1] ∧ Arv Z h a1 k1 .int (3 : Int32) [(.int (0 : Int32)), (.int (1 : Int32)), (.int (0 : Int32))] (.int (0 : Int32)))) := by
  refine g_body (plainFor_of_name pn_java_util_Arrays) ?_
  intro p e s m below meth c T0 K X0 e0
  refine g_entry (ef_6 m a1) ?_
  have N0 : Fr Z.heap.size [] := Fr.nil _
  have Ol0 := Ol
  have Kp0 : Keep h0 h0 [a1] := Keep.refl h0 _
  refine g_aloadN X0 K (q := 1) d4_0 rfl rfl rfl ?_
  refine g_len X0 K (q := 2) e0 A_1 d4_1 rfl ?_
  refine g_iloadN X0 K (q := 3) d4_2 rfl rfl ?_
  refine g_iloadN X0 K (q := 4) d4_3 rfl rfl ?_
  refine g_static X0 K (q := 7) (W := 0) (w32 H) (w33 H) (w30 H) (w34 H) (by decide) (rm5_5 l H h0 Ol0) e0 rfl (argsL := [(.int (3 : Int32)), (.int (1 : Int32)), (.int (2 : Int32))]) (rest := []) (lenOf pd_1 rfl) rfl rfl (Nat.le_of_eq rfl) d4_4 (by decide) (by decide) (by decide) (by decide) rfl ?_
  rintro T1 v1 L1 X1 ⟨rfl, N1q, e1⟩
  have N1 := Fr.app N0 N1q
  show Go p e below _ T1 (mkF m 7 #[.val (.ref a1), .val (.int (1 : Int32)), .val (.int (2 : Int32)), .val (.int (1 : Int32)), .unset] [])
  refine g_iloadN X1 K (q := 8) d4_7 rfl rfl ?_
  refine g_istore X1 K (q := 10) (L' := #[.val (.ref a1), .val (.int (1 : Int32)), .val (.int (2 : Int32)), .val (.int (1 : Int32)), .val (.int (1 : Int32))]) d4_8 rfl rfl ?_
  refine g_iload X1 K (q := 12) d4_10 rfl rfl ?_
  refine g_iloadN X1 K (q := 13) d4_12 rfl rfl ?_
  refine g_icN X1 K (q := 16) d4_13 (by decide) rfl ?_
  refine g_aloadN X1 K (q := 17) d4_16 rfl rfl rfl ?_
  refine g_iload X1 K (q := 19) d4_17 rfl rfl ?_
  refine g_iloadN X1 K (q := 20) d4_19 rfl rfl ?_
  refine g_iast X1 K (q := 21) (vs' := [(.int (0 : Int32)), (.int (1 : Int32)), (.int (0 : Int32))]) e1 A_1 (by decide) (Nat.le_of_ble_eq_true rfl) rfl d4_20 rfl ?_
  intro T2 h2 X2 e2 W2 F2
  have N2 := Fr.snoc X2 N1 ge_1
  have Ol2 := Ol0.wr W2 ge_1
  have Kp2 := Kp0.wr W2 (Or.inl (List.mem_of_getElem? (i := 0) rfl))
  refine g_iinc X2 K (q := 24) (z := (2 : Int32)) (L' := #[.val (.ref a1), .val (.int (1 : Int32)), .val (.int (2 : Int32)), .val (.int (1 : Int32)), .val (.int (2 : Int32))]) d4_21 rfl (by decide) rfl rfl ?_
  refine g_goto X2 K (q := 10) d4_24 (by decide) (by decide) ?_
  refine g_iload X2 K (q := 12) d4_10 rfl rfl ?_
  refine g_iloadN X2 K (q := 13) d4_12 rfl rfl ?_
  refine g_icY X2 K (q := 27) d4_13 (by decide) (by decide) (by decide) ?_
  refine g_ret X2 K d4_27 (by decide) (by decide) ?_
  have Kp : Keep h0 T2.heap [a1] := by rw [e2]; exact Kp2
  exact ⟨rfl, N2, Kp, (by rw [e2]; exact F2)⟩
set_option maxRecDepth 65536 in
set_option maxHeartbeats 40000000 in
theorem rm4_7 (l : Launch) {Z : State} {a0 : Array Value} (H : Hyp Z a0) (a1 : Addr) (k1 : ClassId) (h0 : Heap) (Ol : Old Z Z.heap.size h0) (A_1 : Arv Z h0 a1 k1 .int (3 : Int32) [(.int (1 : Int32)), (.int (0 : Int32)), (.int (0 : Int32))] (.int (0 : Int32))) (ge_1 : Z.heap.size ≤ a1) :
    Mt l Z (⟨"java/util/Arrays", "fill", "([IIII)V"⟩ : MethodName) jdk_65_method_104_code 5 none [] ({ frames := 1, cells := 0, slots := 0, locals := 14 } : Room) #[(.ref a1), (.int (1 : Int32)), (.int (2 : Int32)), (.int (2 : Int32))] h0 (fun v h L => (v = none ∧ Fr Z.heap.size L ∧ Keep h0 h [a1] ∧ Arv Z h a1 k1 .int (3 : Int32) [(.int (1 : Int32)), (.int (2 : Int32)), (.int (0 : Int32))] (.int (0 : Int32)))) := by
  refine g_body (plainFor_of_name pn_java_util_Arrays) ?_
  intro p e s m below meth c T0 K X0 e0
  refine g_entry (ef_7 m a1) ?_
  have N0 : Fr Z.heap.size [] := Fr.nil _
  have Ol0 := Ol
  have Kp0 : Keep h0 h0 [a1] := Keep.refl h0 _
  refine g_aloadN X0 K (q := 1) d4_0 rfl rfl rfl ?_
  refine g_len X0 K (q := 2) e0 A_1 d4_1 rfl ?_
  refine g_iloadN X0 K (q := 3) d4_2 rfl rfl ?_
  refine g_iloadN X0 K (q := 4) d4_3 rfl rfl ?_
  refine g_static X0 K (q := 7) (W := 0) (w32 H) (w33 H) (w30 H) (w34 H) (by decide) (rm5_5 l H h0 Ol0) e0 rfl (argsL := [(.int (3 : Int32)), (.int (1 : Int32)), (.int (2 : Int32))]) (rest := []) (lenOf pd_1 rfl) rfl rfl (Nat.le_of_eq rfl) d4_4 (by decide) (by decide) (by decide) (by decide) rfl ?_
  rintro T1 v1 L1 X1 ⟨rfl, N1q, e1⟩
  have N1 := Fr.app N0 N1q
  show Go p e below _ T1 (mkF m 7 #[.val (.ref a1), .val (.int (1 : Int32)), .val (.int (2 : Int32)), .val (.int (2 : Int32)), .unset] [])
  refine g_iloadN X1 K (q := 8) d4_7 rfl rfl ?_
  refine g_istore X1 K (q := 10) (L' := #[.val (.ref a1), .val (.int (1 : Int32)), .val (.int (2 : Int32)), .val (.int (2 : Int32)), .val (.int (1 : Int32))]) d4_8 rfl rfl ?_
  refine g_iload X1 K (q := 12) d4_10 rfl rfl ?_
  refine g_iloadN X1 K (q := 13) d4_12 rfl rfl ?_
  refine g_icN X1 K (q := 16) d4_13 (by decide) rfl ?_
  refine g_aloadN X1 K (q := 17) d4_16 rfl rfl rfl ?_
  refine g_iload X1 K (q := 19) d4_17 rfl rfl ?_
  refine g_iloadN X1 K (q := 20) d4_19 rfl rfl ?_
  refine g_iast X1 K (q := 21) (vs' := [(.int (1 : Int32)), (.int (2 : Int32)), (.int (0 : Int32))]) e1 A_1 (by decide) (Nat.le_of_ble_eq_true rfl) rfl d4_20 rfl ?_
  intro T2 h2 X2 e2 W2 F2
  have N2 := Fr.snoc X2 N1 ge_1
  have Ol2 := Ol0.wr W2 ge_1
  have Kp2 := Kp0.wr W2 (Or.inl (List.mem_of_getElem? (i := 0) rfl))
  refine g_iinc X2 K (q := 24) (z := (2 : Int32)) (L' := #[.val (.ref a1), .val (.int (1 : Int32)), .val (.int (2 : Int32)), .val (.int (2 : Int32)), .val (.int (2 : Int32))]) d4_21 rfl (by decide) rfl rfl ?_
  refine g_goto X2 K (q := 10) d4_24 (by decide) (by decide) ?_
  refine g_iload X2 K (q := 12) d4_10 rfl rfl ?_
  refine g_iloadN X2 K (q := 13) d4_12 rfl rfl ?_
  refine g_icY X2 K (q := 27) d4_13 (by decide) (by decide) (by decide) ?_
  refine g_ret X2 K d4_27 (by decide) (by decide) ?_
  have Kp : Keep h0 T2.heap [a1] := by rw [e2]; exact Kp2
  exact ⟨rfl, N2, Kp, (by rw [e2]; exact F2)⟩
set_option maxRecDepth 65536 in
set_option maxHeartbeats 40000000 in
theorem rm3_8 (l : Launch) {Z : State} {a0 : Array Value} (H : Hyp Z a0) (a1 : Addr) (k1 : ClassId) (h0 : Heap) (Ol : Old Z Z.heap.size h0) (A_1 : Arv Z h0 a1 k1 .int (3 : Int32) [(.int (0 : Int32)), (.int (0 : Int32)), (.int (0 : Int32))] (.int (0 : Int32))) :
    Mt l Z (⟨"ludarium/rules/BrutusDeck", "runEnd", "([III)I"⟩ : MethodName) prog_18_method_31_code 5 (some .int) [] ({ frames := 0, cells := 0, slots := 0, locals := 0 } : Room) #[(.ref a1), (.int (3 : Int32)), (.int (2 : Int32))] h0 (fun v h L => (v = some (.int (3 : Int32)) ∧ Fr Z.heap.size L ∧ h = h0)) := by
  refine g_body (plainFor_of_name pn_ludarium_rules_BrutusDeck) ?_
  intro p e s m below meth c T0 K X0 e0
  refine g_entry (ef_8 m a1) ?_
  have N0 : Fr Z.heap.size [] := Fr.nil _
  have Ol0 := Ol
  have Kp0 : Keep h0 h0 [] := Keep.refl h0 _
  refine g_aloadN X0 K (q := 1) d3_0 rfl rfl rfl ?_
  refine g_iloadN X0 K (q := 2) d3_1 rfl rfl ?_
  refine g_iald X0 K (q := 3) (v := (.int (0 : Int32))) e0 A_1 (by decide) rfl d3_2 rfl ?_
  refine g_istoreN X0 K (q := 4) (L' := #[.val (.ref a1), .val (.int (3 : Int32)), .val (.int (2 : Int32)), .val (.int (0 : Int32)), .unset]) d3_3 rfl rfl ?_
  refine g_iloadN X0 K (q := 5) d3_4 rfl rfl ?_
  refine g_iconst X0 K (q := 6) (v := (1 : Int32)) d3_5 (by decide) rfl ?_
  refine g_iadd X0 K (q := 7) d3_6 (z := (3 : Int32)) (by decide) rfl ?_
  refine g_istore X0 K (q := 9) (L' := #[.val (.ref a1), .val (.int (3 : Int32)), .val (.int (2 : Int32)), .val (.int (0 : Int32)), .val (.int (3 : Int32))]) d3_7 rfl rfl ?_
  refine g_iloadN X0 K (q := 10) d3_9 rfl rfl ?_
  refine g_sipush X0 K (q := 13) (v := (16384 : Int32)) d3_10 (by decide) rfl ?_
  refine g_iand X0 K (q := 14) d3_13 (z := (0 : Int32)) (by decide) rfl ?_
  refine g_ifY X0 K (q := 54) d3_14 (by decide) (by decide) (by decide) ?_
  refine g_iload X0 K (q := 56) d3_54 rfl rfl ?_
  refine g_iloadN X0 K (q := 57) d3_56 rfl rfl ?_
  refine g_icY X0 K (q := 79) d3_57 (by decide) (by decide) (by decide) ?_
  refine g_iload X0 K (q := 81) d3_79 rfl rfl ?_
  refine g_iret X0 K d3_81 (by decide) (by decide) ?_
  exact ⟨rfl, N0, e0⟩
set_option maxRecDepth 65536 in
set_option maxHeartbeats 40000000 in
theorem rm5_9 (l : Launch) {Z : State} {a0 : Array Value} (H : Hyp Z a0) (h0 : Heap) (Ol : Old Z Z.heap.size h0) :
    Mt l Z (⟨"java/util/Arrays", "rangeCheck", "(III)V"⟩ : MethodName) jdk_65_method_30_code 3 none [] ({ frames := 0, cells := 0, slots := 0, locals := 0 } : Room) #[(.int (3 : Int32)), (.int (2 : Int32)), (.int (3 : Int32))] h0 (fun v h L => (v = none ∧ Fr Z.heap.size L ∧ h = h0)) := by
  refine g_body (plainFor_of_name pn_java_util_Arrays) ?_
  intro p e s m below meth c T0 K X0 e0
  refine g_entry (ef_9 m) ?_
  have N0 : Fr Z.heap.size [] := Fr.nil _
  have Ol0 := Ol
  have Kp0 : Keep h0 h0 [] := Keep.refl h0 _
  refine g_iloadN X0 K (q := 1) d5_0 rfl rfl ?_
  refine g_iloadN X0 K (q := 2) d5_1 rfl rfl ?_
  refine g_icY X0 K (q := 46) d5_2 (by decide) (by decide) (by decide) ?_
  refine g_iloadN X0 K (q := 47) d5_46 rfl rfl ?_
  refine g_ifY X0 K (q := 59) d5_47 (by decide) (by decide) (by decide) ?_
  refine g_iloadN X0 K (q := 60) d5_59 rfl rfl ?_
  refine g_iloadN X0 K (q := 61) d5_60 rfl rfl ?_
  refine g_icY X0 K (q := 73) d5_61 (by decide) (by decide) (by decide) ?_
  refine g_ret X0 K d5_73 (by decide) (by decide) ?_
  exact ⟨rfl, N0, e0⟩
set_option maxRecDepth 65536 in
set_option maxHeartbeats 40000000 in
theorem rm4_10 (l : Launch) {Z : State} {a0 : Array Value} (H : Hyp Z a0) (a1 : Addr) (k1 : ClassId) (h0 : Heap) (Ol : Old Z Z.heap.size h0) (A_1 : Arv Z h0 a1 k1 .int (3 : Int32) [(.int (0 : Int32)), (.int (1 : Int32)), (.int (0 : Int32))] (.int (0 : Int32))) (ge_1 : Z.heap.size ≤ a1) :
    Mt l Z (⟨"java/util/Arrays", "fill", "([IIII)V"⟩ : MethodName) jdk_65_method_104_code 5 none [] ({ frames := 1, cells := 0, slots := 0, locals := 14 } : Room) #[(.ref a1), (.int (2 : Int32)), (.int (3 : Int32)), (.int (2 : Int32))] h0 (fun v h L => (v = none ∧ Fr Z.heap.size L ∧ Keep h0 h [a1] ∧ Arv Z h a1 k1 .int (3 : Int32) [(.int (0 : Int32)), (.int (1 : Int32)), (.int (2 : Int32))] (.int (0 : Int32)))) := by
  refine g_body (plainFor_of_name pn_java_util_Arrays) ?_
  intro p e s m below meth c T0 K X0 e0
  refine g_entry (ef_10 m a1) ?_
  have N0 : Fr Z.heap.size [] := Fr.nil _
  have Ol0 := Ol
  have Kp0 : Keep h0 h0 [a1] := Keep.refl h0 _
  refine g_aloadN X0 K (q := 1) d4_0 rfl rfl rfl ?_
  refine g_len X0 K (q := 2) e0 A_1 d4_1 rfl ?_
  refine g_iloadN X0 K (q := 3) d4_2 rfl rfl ?_
  refine g_iloadN X0 K (q := 4) d4_3 rfl rfl ?_
  refine g_static X0 K (q := 7) (W := 0) (w32 H) (w33 H) (w30 H) (w34 H) (by decide) (rm5_9 l H h0 Ol0) e0 rfl (argsL := [(.int (3 : Int32)), (.int (2 : Int32)), (.int (3 : Int32))]) (rest := []) (lenOf pd_1 rfl) rfl rfl (Nat.le_of_eq rfl) d4_4 (by decide) (by decide) (by decide) (by decide) rfl ?_
  rintro T1 v1 L1 X1 ⟨rfl, N1q, e1⟩
  have N1 := Fr.app N0 N1q
  show Go p e below _ T1 (mkF m 7 #[.val (.ref a1), .val (.int (2 : Int32)), .val (.int (3 : Int32)), .val (.int (2 : Int32)), .unset] [])
  refine g_iloadN X1 K (q := 8) d4_7 rfl rfl ?_
  refine g_istore X1 K (q := 10) (L' := #[.val (.ref a1), .val (.int (2 : Int32)), .val (.int (3 : Int32)), .val (.int (2 : Int32)), .val (.int (2 : Int32))]) d4_8 rfl rfl ?_
  refine g_iload X1 K (q := 12) d4_10 rfl rfl ?_
  refine g_iloadN X1 K (q := 13) d4_12 rfl rfl ?_
  refine g_icN X1 K (q := 16) d4_13 (by decide) rfl ?_
  refine g_aloadN X1 K (q := 17) d4_16 rfl rfl rfl ?_
  refine g_iload X1 K (q := 19) d4_17 rfl rfl ?_
  refine g_iloadN X1 K (q := 20) d4_19 rfl rfl ?_
  refine g_iast X1 K (q := 21) (vs' := [(.int (0 : Int32)), (.int (1 : Int32)), (.int (2 : Int32))]) e1 A_1 (by decide) (Nat.le_of_ble_eq_true rfl) rfl d4_20 rfl ?_
  intro T2 h2 X2 e2 W2 F2
  have N2 := Fr.snoc X2 N1 ge_1
  have Ol2 := Ol0.wr W2 ge_1
  have Kp2 := Kp0.wr W2 (Or.inl (List.mem_of_getElem? (i := 0) rfl))
  refine g_iinc X2 K (q := 24) (z := (3 : Int32)) (L' := #[.val (.ref a1), .val (.int (2 : Int32)), .val (.int (3 : Int32)), .val (.int (2 : Int32)), .val (.int (3 : Int32))]) d4_21 rfl (by decide) rfl rfl ?_
  refine g_goto X2 K (q := 10) d4_24 (by decide) (by decide) ?_
  refine g_iload X2 K (q := 12) d4_10 rfl rfl ?_
  refine g_iloadN X2 K (q := 13) d4_12 rfl rfl ?_
  refine g_icY X2 K (q := 27) d4_13 (by decide) (by decide) (by decide) ?_
  refine g_ret X2 K d4_27 (by decide) (by decide) ?_
  have Kp : Keep h0 T2.heap [a1] := by rw [e2]; exact Kp2
  exact ⟨rfl, N2, Kp, (by rw [e2]; exact F2)⟩
set_option maxRecDepth 65536 in
set_option maxHeartbeats 40000000 in
theorem rm4_11 (l : Launch) {Z : State} {a0 : Array Value} (H : Hyp Z a0) (a1 : Addr) (k1 : ClassId) (h0 : Heap) (Ol : Old Z Z.heap.size h0) (A_1 : Arv Z h0 a1 k1 .int (3 : Int32) [(.int (1 : Int32)), (.int (2 : Int32)), (.int (0 : Int32))] (.int (0 : Int32))) (ge_1 : Z.heap.size ≤ a1) :
    Mt l Z (⟨"java/util/Arrays", "fill", "([IIII)V"⟩ : MethodName) jdk_65_method_104_code 5 none [] ({ frames := 1, cells := 0, slots := 0, locals := 14 } : Room) #[(.ref a1), (.int (2 : Int32)), (.int (3 : Int32)), (.int (3 : Int32))] h0 (fun v h L => (v = none ∧ Fr Z.heap.size L ∧ Keep h0 h [a1] ∧ Arv Z h a1 k1 .int (3 : Int32) [(.int (1 : Int32)), (.int (2 : Int32)), (.int (3 : Int32))] (.int (0 : Int32)))) := by
  refine g_body (plainFor_of_name pn_java_util_Arrays) ?_
  intro p e s m below meth c T0 K X0 e0
  refine g_entry (ef_11 m a1) ?_
  have N0 : Fr Z.heap.size [] := Fr.nil _
  have Ol0 := Ol
  have Kp0 : Keep h0 h0 [a1] := Keep.refl h0 _
  refine g_aloadN X0 K (q := 1) d4_0 rfl rfl rfl ?_
  refine g_len X0 K (q := 2) e0 A_1 d4_1 rfl ?_
  refine g_iloadN X0 K (q := 3) d4_2 rfl rfl ?_
  refine g_iloadN X0 K (q := 4) d4_3 rfl rfl ?_
  refine g_static X0 K (q := 7) (W := 0) (w32 H) (w33 H) (w30 H) (w34 H) (by decide) (rm5_9 l H h0 Ol0) e0 rfl (argsL := [(.int (3 : Int32)), (.int (2 : Int32)), (.int (3 : Int32))]) (rest := []) (lenOf pd_1 rfl) rfl rfl (Nat.le_of_eq rfl) d4_4 (by decide) (by decide) (by decide) (by decide) rfl ?_
  rintro T1 v1 L1 X1 ⟨rfl, N1q, e1⟩
  have N1 := Fr.app N0 N1q
  show Go p e below _ T1 (mkF m 7 #[.val (.ref a1), .val (.int (2 : Int32)), .val (.int (3 : Int32)), .val (.int (3 : Int32)), .unset] [])
  refine g_iloadN X1 K (q := 8) d4_7 rfl rfl ?_
  refine g_istore X1 K (q := 10) (L' := #[.val (.ref a1), .val (.int (2 : Int32)), .val (.int (3 : Int32)), .val (.int (3 : Int32)), .val (.int (2 : Int32))]) d4_8 rfl rfl ?_
  refine g_iload X1 K (q := 12) d4_10 rfl rfl ?_
  refine g_iloadN X1 K (q := 13) d4_12 rfl rfl ?_
  refine g_icN X1 K (q := 16) d4_13 (by decide) rfl ?_
  refine g_aloadN X1 K (q := 17) d4_16 rfl rfl rfl ?_
  refine g_iload X1 K (q := 19) d4_17 rfl rfl ?_
  refine g_iloadN X1 K (q := 20) d4_19 rfl rfl ?_
  refine g_iast X1 K (q := 21) (vs' := [(.int (1 : Int32)), (.int (2 : Int32)), (.int (3 : Int32))]) e1 A_1 (by decide) (Nat.le_of_ble_eq_true rfl) rfl d4_20 rfl ?_
  intro T2 h2 X2 e2 W2 F2
  have N2 := Fr.snoc X2 N1 ge_1
  have Ol2 := Ol0.wr W2 ge_1
  have Kp2 := Kp0.wr W2 (Or.inl (List.mem_of_getElem? (i := 0) rfl))
  refine g_iinc X2 K (q := 24) (z := (3 : Int32)) (L' := #[.val (.ref a1), .val (.int (2 : Int32)), .val (.int (3 : Int32)), .val (.int (3 : Int32)), .val (.int (3 : Int32))]) d4_21 rfl (by decide) rfl rfl ?_
  refine g_goto X2 K (q := 10) d4_24 (by decide) (by decide) ?_
  refine g_iload X2 K (q := 12) d4_10 rfl rfl ?_
  refine g_iloadN X2 K (q := 13) d4_12 rfl rfl ?_
  refine g_icY X2 K (q := 27) d4_13 (by decide) (by decide) (by decide) ?_
  refine g_ret X2 K d4_27 (by decide) (by decide) ?_
  have Kp : Keep h0 T2.heap [a1] := by rw [e2]; exact Kp2
  exact ⟨rfl, N2, Kp, (by rw [e2]; exact F2)⟩
set_option maxRecDepth 65536 in
set_option maxHeartbeats 40000000 in
theorem rm1_12 (l : Launch) {Z : State} {a0 : Array Value} (H : Hyp Z a0) (a1 : Addr) (a2 : Addr) (a3 : Addr) (a4 : Addr) (k1 : ClassId) (h0 : Heap) (Ol : Old Z Z.heap.size h0) (E_1 : Exa Z h0 a1 "ludarium/rules/BrutusSight") (F_1 : Fld Z h0 a1 "ludarium/rules/BrutusSight" "seat" "I" (.int (0 : Int32))) (F_2 : Fld Z h0 a1 "ludarium/rules/BrutusSight" "copies" "I" (.int (0 : Int32))) (F_3 : Fld Z h0 a1 "ludarium/rules/BrutusSight" "dealt" "[I" .null) (F_4 : Fld Z h0 a1 "ludarium/rules/BrutusSight" "hand" "[I" .null) (F_5 : Fld Z h0 a1 "ludarium/rules/BrutusSight" "moves" "[I" .null) (F_6 : Fld Z h0 a1 "ludarium/rules/BrutusSight" "runStart" "[I" .null) (F_7 : Fld Z h0 a1 "ludarium/rules/BrutusSight" "runEnd" "[I" .null) (ge_1 : Z.heap.size ≤ a1) (A_1 : Arv Z h0 a4 k1 .int (3 : Int32) [(.int (0 : Int32)), (.int (0 : Int32)), (.int (0 : Int32))] (.int (0 : Int32))) (ne_1 : a4 ≠ a1) :
    Mt l Z (⟨"ludarium/rules/BrutusSight", "<init>", "(II[I[I[I)V"⟩ : MethodName) prog_50_method_1_code 8 none [] ({ frames := 2, cells := 2, slots := 6, locals := 30 } : Room) #[(.ref a1), (.int (0 : Int32)), (.int (1 : Int32)), (.ref a2), (.ref a3), (.ref a4)] h0 (fun v h L => (∃ (b7 : Addr), ∃ (b9 : Addr), ∃ (kA7 : ClassId), ∃ (kA9 : ClassId), v = none ∧ Fr Z.heap.size L ∧ Keep h0 h [a1] ∧ h0.size ≤ b7 ∧ b7 < b9 ∧ Exa Z h a1 "ludarium/rules/BrutusSight" ∧ Fld Z h a1 "ludarium/rules/BrutusSight" "seat" "I" (.int (0 : Int32)) ∧ Fld Z h a1 "ludarium/rules/BrutusSight" "copies" "I" (.int (1 : Int32)) ∧ Fld Z h a1 "ludarium/rules/BrutusSight" "dealt" "[I" (.ref a2) ∧ Fld Z h a1 "ludarium/rules/BrutusSight" "hand" "[I" (.ref a3) ∧ Fld Z h a1 "ludarium/rules/BrutusSight" "moves" "[I" (.ref a4) ∧ Fld Z h a1 "ludarium/rules/BrutusSight" "runStart" "[I" (.ref b7) ∧ Fld Z h a1 "ludarium/rules/BrutusSight" "runEnd" "[I" (.ref b9) ∧ Arv Z h b7 kA7 .int (3 : Int32) [(.int (0 : Int32)), (.int (1 : Int32)), (.int (2 : Int32))] (.int (0 : Int32)) ∧ Arv Z h b9 kA9 .int (3 : Int32) [(.int (1 : Int32)), (.int (2 : Int32)), (.int (3 : Int32))] (.int (0 : Int32)))) := by
  refine g_body (plainFor_of_name pn_ludarium_rules_BrutusSight) ?_
  intro p e s m below meth c T0 K X0 e0
  refine g_entry (ef_12 m a1 a2 a3 a4) ?_
  have N0 : Fr Z.heap.size [] := Fr.nil _
  have Ol0 := Ol
  have Kp0 : Keep h0 h0 [a1] := Keep.refl h0 _
  refine g_aloadN X0 K (q := 1) d1_0 rfl rfl rfl ?_
  refine g_init X0 K (q := 4) (W := 0) (w7 H) (w8 H) (w9 H) e0 rfl d1_1 (by decide) (Nat.le_of_eq rfl) (by decide) rfl ?_
  intro T1 X1 e1
  refine g_aloadN X1 K (q := 5) d1_4 rfl rfl rfl ?_
  refine g_iloadN X1 K (q := 6) d1_5 rfl rfl ?_
  refine g_putf X1 K (q := 9) (w10 H) Via.refl e1 F_1 E_1 (Or.inr ⟨(w11 H), rfl, rfl⟩) (w1 H) (ty := .int) (by decide) rfl rfl d1_6 rfl ?_
  intro T2 h2 X2 e2 W2 F2
  have N2 := Fr.snoc X2 N0 ge_1
  have Ol2 := Ol0.wr W2 ge_1
  have Kp2 := Kp0.wr W2 (Or.inl (List.mem_of_getElem? (i := 0) rfl))
  refine g_aloadN X2 K (q := 10) d1_9 rfl rfl rfl ?_
  refine g_iloadN X2 K (q := 11) d1_10 rfl rfl ?_
  have f1 := (F_2.other W2 (Or.inr (slot_ne (a0 := a0) (Or.inr (w13 H)) (Or.inr (w11 H)) (by decide) (t := .int) (t' := .int) (by decide) (by decide))))
  have f2 := (E_1.wr W2)
  refine g_putf X2 K (q := 14) (w12 H) Via.refl e2 f1 f2 (Or.inr ⟨(w13 H), rfl, rfl⟩) (w1 H) (ty := .int) (by decide) rfl rfl d1_11 rfl ?_
  intro T3 h3 X3 e3 W3 F3
  have N3 := Fr.snoc X3 N2 ge_1
  have Ol3 := Ol2.wr W3 ge_1
  have Kp3 := Kp2.wr W3 (Or.inl (List.mem_of_getElem? (i := 0) rfl))
  refine g_aloadN X3 K (q := 15) d1_14 rfl rfl rfl ?_
  refine g_aloadN X3 K (q := 16) d1_15 rfl rfl rfl ?_
  have f3 := ((F_3.other W2 (Or.inr (slot_ne (a0 := a0) (Or.inr (w15 H)) (Or.inr (w11 H)) (by decide) (t := (.array .int)) (t' := .int) (by decide) (by decide)))).other W3 (Or.inr (slot_ne (a0 := a0) (Or.inr (w15 H)) (Or.inr (w13 H)) (by decide) (t := (.array .int)) (t' := .int) (by decide) (by decide))))
  have f4 := (f2.wr W3)
  refine g_putf X3 K (q := 19) (w14 H) Via.refl e3 f3 f4 (Or.inr ⟨(w15 H), rfl, rfl⟩) (w1 H) (ty := (.array .int)) (by decide) rfl rfl d1_16 rfl ?_
  intro T4 h4 X4 e4 W4 F4
  have N4 := Fr.snoc X4 N3 ge_1
  have Ol4 := Ol3.wr W4 ge_1
  have Kp4 := Kp3.wr W4 (Or.inl (List.mem_of_getElem? (i := 0) rfl))
  refine g_aloadN X4 K (q := 20) d1_19 rfl rfl rfl ?_
  refine g_aload X4 K (q := 22) d1_20 rfl rfl rfl ?_
  have f5 := (((F_4.other W2 (Or.inr (slot_ne (a0 := a0) (Or.inr (w17 H)) (Or.inr (w11 H)) (by decide) (t := (.array .int)) (t' := .int) (by decide) (by decide)))).other W3 (Or.inr (slot_ne (a0 := a0) (Or.inr (w17 H)) (Or.inr (w13 H)) (by decide) (t := (.array .int)) (t' := .int) (by decide) (by decide)))).other W4 (Or.inr (slot_ne (a0 := a0) (Or.inr (w17 H)) (Or.inr (w15 H)) (by decide) (t := (.array .int)) (t' := (.array .int)) (by decide) (by decide))))
  have f6 := (f4.wr W4)
  refine g_putf X4 K (q := 25) (w16 H) Via.refl e4 f5 f6 (Or.inr ⟨(w17 H), rfl, rfl⟩) (w1 H) (ty := (.array .int)) (by decide) rfl rfl d1_22 rfl ?_
  intro T5 h5 X5 e5 W5 F5
  have N5 := Fr.snoc X5 N4 ge_1
  have Ol5 := Ol4.wr W5 ge_1
  have Kp5 := Kp4.wr W5 (Or.inl (List.mem_of_getElem? (i := 0) rfl))
  refine g_aloadN X5 K (q := 26) d1_25 rfl rfl rfl ?_
  refine g_aload X5 K (q := 28) d1_26 rfl rfl rfl ?_
  have f7 := ((((F_5.other W2 (Or.inr (slot_ne (a0 := a0) (Or.inr (w19 H)) (Or.inr (w11 H)) (by decide) (t := (.array .int)) (t' := .int) (by decide) (by decide)))).other W3 (Or.inr (slot_ne (a0 := a0) (Or.inr (w19 H)) (Or.inr (w13 H)) (by decide) (t := (.array .int)) (t' := .int) (by decide) (by decide)))).other W4 (Or.inr (slot_ne (a0 := a0) (Or.inr (w19 H)) (Or.inr (w15 H)) (by decide) (t := (.array .int)) (t' := (.array .int)) (by decide) (by decide)))).other W5 (Or.inr (slot_ne (a0 := a0) (Or.inr (w19 H)) (Or.inr (w17 H)) (by decide) (t := (.array .int)) (t' := (.array .int)) (by decide) (by decide))))
  have f8 := (f6.wr W5)
  refine g_putf X5 K (q := 31) (w18 H) Via.refl e5 f7 f8 (Or.inr ⟨(w19 H), rfl, rfl⟩) (w1 H) (ty := (.array .int)) (by decide) rfl rfl d1_28 rfl ?_
  intro T6 h6 X6 e6 W6 F6
  have N6 := Fr.snoc X6 N5 ge_1
  have Ol6 := Ol5.wr W6 ge_1
  have Kp6 := Kp5.wr W6 (Or.inl (List.mem_of_getElem? (i := 0) rfl))
  refine g_aloadN X6 K (q := 32) d1_31 rfl rfl rfl ?_
  refine g_aload X6 K (q := 34) d1_32 rfl rfl rfl ?_
  have f9 := (((((A_1.other W2 ne_1).other W3 ne_1).other W4 ne_1).other W5 ne_1).other W6 ne_1)
  refine g_len X6 K (q := 35) e6 f9 d1_34 rfl ?_
  refine g_newp X6 K (q := 37) (cap := 3) (ty := .int) (vs := [(.int (0 : Int32)), (.int (0 : Int32)), (.int (0 : Int32))]) (w3 H) rfl e6 d1_35 (by decide) (by decide) rfl (by decide) (by decide) (by decide) rfl ?_
  intro T7 h7 b7 kA7 X7 e7 E7 z7 A7
  have sz7 : h0.size ≤ b7 := Nat.le_trans Kp6.1 (Nat.le_of_eq z7)
  have ge7 : Z.heap.size ≤ b7 := Nat.le_trans Ol6.2.1 (Nat.le_of_eq z7)
  have Ol7 := Ol6.ext E7
  have Kp7 := Kp6.ext E7
  have f10 := ((((((F_6.other W2 (Or.inr (slot_ne (a0 := a0) (Or.inr (w21 H)) (Or.inr (w11 H)) (by decide) (t := (.array .int)) (t' := .int) (by decide) (by decide)))).other W3 (Or.inr (slot_ne (a0 := a0) (Or.inr (w21 H)) (Or.inr (w13 H)) (by decide) (t := (.array .int)) (t' := .int) (by decide) (by decide)))).other W4 (Or.inr (slot_ne (a0 := a0) (Or.inr (w21 H)) (Or.inr (w15 H)) (by decide) (t := (.array .int)) (t' := (.array .int)) (by decide) (by decide)))).other W5 (Or.inr (slot_ne (a0 := a0) (Or.inr (w21 H)) (Or.inr (w17 H)) (by decide) (t := (.array .int)) (t' := (.array .int)) (by decide) (by decide)))).other W6 (Or.inr (slot_ne (a0 := a0) (Or.inr (w21 H)) (Or.inr (w19 H)) (by decide) (t := (.array .int)) (t' := (.array .int)) (by decide) (by decide)))).ext E7)
  have f11 := ((f8.wr W6).ext E7)
  refine g_putf X7 K (q := 40) (w20 H) Via.refl e7 f10 f11 (Or.inr ⟨(w21 H), rfl, rfl⟩) (w1 H) (ty := (.array .int)) (by decide) rfl rfl d1_37 rfl ?_
  intro T8 h8 X8 e8 W8 F8
  have N8 := Fr.snoc X8 N6 ge_1
  have Ol8 := Ol7.wr W8 ge_1
  have Kp8 := Kp7.wr W8 (Or.inl (List.mem_of_getElem? (i := 0) rfl))
  refine g_aloadN X8 K (q := 41) d1_40 rfl rfl rfl ?_
  refine g_aload X8 K (q := 43) d1_41 rfl rfl rfl ?_
  have f12 := ((f9.ext E7).other W8 ne_1)
  refine g_len X8 K (q := 44) e8 f12 d1_43 rfl ?_
  refine g_newp X8 K (q := 46) (cap := 3) (ty := .int) (vs := [(.int (0 : Int32)), (.int (0 : Int32)), (.int (0 : Int32))]) (w3 H) rfl e8 d1_44 (by decide) (by decide) rfl (by decide) (by decide) (by decide) rfl ?_
  intro T9 h9 b9 kA9 X9 e9 E9 z9 A9
  have sz9 : h0.size ≤ b9 := Nat.le_trans Kp8.1 (Nat.le_of_eq z9)
  have ge9 : Z.heap.size ≤ b9 := Nat.le_trans Ol8.2.1 (Nat.le_of_eq z9)
  have ne1 : a1 ≠ b7 := (Nat.ne_of_lt (Nat.lt_of_lt_of_le E_1.lt sz7))
  have f13 := (A7.other W8 (Ne.symm ne1))
  have lk9 : b7 < b9 := Nat.lt_of_lt_of_eq f13.lt z9
  have Ol9 := Ol8.ext E9
  have Kp9 := Kp8.ext E9
  have f14 := ((((((((F_7.other W2 (Or.inr (slot_ne (a0 := a0) (Or.inr (w23 H)) (Or.inr (w11 H)) (by decide) (t := (.array .int)) (t' := .int) (by decide) (by decide)))).other W3 (Or.inr (slot_ne (a0 := a0) (Or.inr (w23 H)) (Or.inr (w13 H)) (by decide) (t := (.array .int)) (t' := .int) (by decide) (by decide)))).other W4 (Or.inr (slot_ne (a0 := a0) (Or.inr (w23 H)) (Or.inr (w15 H)) (by decide) (t := (.array .int)) (t' := (.array .int)) (by decide) (by decide)))).other W5 (Or.inr (slot_ne (a0 := a0) (Or.inr (w23 H)) (Or.inr (w17 H)) (by decide) (t := (.array .int)) (t' := (.array .int)) (by decide) (by decide)))).other W6 (Or.inr (slot_ne (a0 := a0) (Or.inr (w23 H)) (Or.inr (w19 H)) (by decide) (t := (.array .int)) (t' := (.array .int)) (by decide) (by decide)))).ext E7).other W8 (Or.inr (slot_ne (a0 := a0) (Or.inr (w23 H)) (Or.inr (w21 H)) (by decide) (t := (.array .int)) (t' := (.array .int)) (by decide) (by decide)))).ext E9)
  have f15 := ((f11.wr W8).ext E9)
  refine g_putf X9 K (q := 49) (w22 H) Via.refl e9 f14 f15 (Or.inr ⟨(w23 H), rfl, rfl⟩) (w1 H) (ty := (.array .int)) (by decide) rfl rfl d1_46 rfl ?_
  intro T10 h10 X10 e10 W10 F10
  have N10 := Fr.snoc X10 N8 ge_1
  have Ol10 := Ol9.wr W10 ge_1
  have Kp10 := Kp9.wr W10 (Or.inl (List.mem_of_getElem? (i := 0) rfl))
  refine g_iconst X10 K (q := 50) (v := (0 : Int32)) d1_49 (by decide) rfl ?_
  refine g_istore X10 K (q := 52) (L' := #[.val (.ref a1), .val (.int (0 : Int32)), .val (.int (1 : Int32)), .val (.ref a2), .val (.ref a3), .val (.ref a4), .val (.int (0 : Int32)), .unset]) d1_50 rfl rfl ?_
  refine g_iload X10 K (q := 54) d1_52 rfl rfl ?_
  refine g_aload X10 K (q := 56) d1_54 rfl rfl rfl ?_
  have f16 := ((f12.ext E9).other W10 ne_1)
  refine g_len X10 K (q := 57) e10 f16 d1_56 rfl ?_
  refine g_icN X10 K (q := 60) d1_57 (by decide) rfl ?_
  refine g_aload X10 K (q := 62) d1_60 rfl rfl rfl ?_
  refine g_aload X10 K (q := 64) d1_62 rfl rfl rfl ?_
  refine g_len X10 K (q := 65) e10 f16 d1_64 rfl ?_
  refine g_iload X10 K (q := 67) d1_65 rfl rfl ?_
  refine g_static X10 K (q := 70) (W := 0) (w24 H) (w25 H) (w26 H) (w27 H) (by decide) (rm3_0 l H a4 k1 h10 Ol10 f16) e10 rfl (argsL := [(.ref a4), (.int (3 : Int32)), (.int (0 : Int32))]) (rest := []) (lenOf pd_0 rfl) rfl rfl (Nat.le_of_eq rfl) d1_67 (by decide) (by decide) (by decide) (by decide) rfl ?_
  rintro T11 v11 L11 X11 ⟨rfl, N11q, e11⟩
  have N11 := Fr.app N10 N11q
  show Go p e below _ T11 (mkF m 70 #[.val (.ref a1), .val (.int (0 : Int32)), .val (.int (1 : Int32)), .val (.ref a2), .val (.ref a3), .val (.ref a4), .val (.int (0 : Int32)), .unset] [(.int (1 : Int32))])
  refine g_istore X11 K (q := 72) (L' := #[.val (.ref a1), .val (.int (0 : Int32)), .val (.int (1 : Int32)), .val (.ref a2), .val (.ref a3), .val (.ref a4), .val (.int (0 : Int32)), .val (.int (1 : Int32))]) d1_70 rfl rfl ?_
  refine g_aloadN X11 K (q := 73) d1_72 rfl rfl rfl ?_
  have f17 := ((F8.ext E9).other W10 (Or.inr (slot_ne (a0 := a0) (Or.inr (w21 H)) (Or.inr (w23 H)) (by decide) (t := (.array .int)) (t' := (.array .int)) (by decide) (by decide))))
  refine g_getf X11 K (q := 76) (w20 H) Via.refl e11 f17 d1_73 rfl ?_
  intro T12 X12 e12
  refine g_iload X12 K (q := 78) d1_76 rfl rfl ?_
  refine g_iload X12 K (q := 80) d1_78 rfl rfl ?_
  refine g_iload X12 K (q := 82) d1_80 rfl rfl ?_
  have f18 := ((f13.ext E9).other W10 (Ne.symm ne1))
  refine g_static X12 K (q := 85) (W := 0) (w28 H) (w29 H) (w30 H) (w31 H) (by decide) (rm4_2 l H b7 kA7 h10 Ol10 f18 ge7) e12 rfl (argsL := [(.ref b7), (.int (0 : Int32)), (.int (1 : Int32)), (.int (0 : Int32))]) (rest := []) (lenOf pd_2 rfl) rfl rfl (Nat.le_of_eq rfl) d1_82 (by decide) (by decide) (by decide) (by decide) rfl ?_
  rintro T13 v13 L13 X13 ⟨rfl, N13q, Kc13, g1⟩
  have N13 := Fr.app N11 N13q
  have Ol13 := Ol10.keep Kc13 (allS ge7 all0)
  have Kp13 := Kp10.trans Kc13 (allS (P := fun x => x ∈ _ ∨ _ ≤ x) (Or.inr sz7) all0)
  show Go p e below _ T13 (mkF m 85 #[.val (.ref a1), .val (.int (0 : Int32)), .val (.int (1 : Int32)), .val (.ref a2), .val (.ref a3), .val (.ref a4), .val (.int (0 : Int32)), .val (.int (1 : Int32))] [])
  refine g_aloadN X13 K (q := 86) d1_85 rfl rfl rfl ?_
  have f19 := (F10.keep Kc13 (ninS ne1 nin0))
  refine g_getf X13 K (q := 89) (w22 H) Via.refl rfl f19 d1_86 rfl ?_
  intro T14 X14 e14
  refine g_iload X14 K (q := 91) d1_89 rfl rfl ?_
  refine g_iload X14 K (q := 93) d1_91 rfl rfl ?_
  refine g_iload X14 K (q := 95) d1_93 rfl rfl ?_
  have ne2 : a1 ≠ b9 := (Nat.ne_of_lt (Nat.lt_of_lt_of_le E_1.lt sz9))
  have ne3 : b7 ≠ b9 := (Nat.ne_of_lt lk9)
  have f20 := ((A9.other W10 (Ne.symm ne2)).keep Kc13 (ninS (Ne.symm ne3) nin0))
  refine g_static X14 K (q := 98) (W := 0) (w28 H) (w29 H) (w30 H) (w31 H) (by decide) (rm4_3 l H b9 kA9 T13.heap Ol13 f20 ge9) e14 rfl (argsL := [(.ref b9), (.int (0 : Int32)), (.int (1 : Int32)), (.int (1 : Int32))]) (rest := []) (lenOf pd_2 rfl) rfl rfl (Nat.le_of_eq rfl) d1_95 (by decide) (by decide) (by decide) (by decide) rfl ?_
  rintro T15 v15 L15 X15 ⟨rfl, N15q, Kc15, g2⟩
  have N15 := Fr.app N13 N15q
  have Ol15 := Ol13.keep Kc15 (allS ge9 all0)
  have Kp15 := Kp13.trans Kc15 (allS (P := fun x => x ∈ _ ∨ _ ≤ x) (Or.inr sz9) all0)
  show Go p e below _ T15 (mkF m 98 #[.val (.ref a1), .val (.int (0 : Int32)), .val (.int (1 : Int32)), .val (.ref a2), .val (.ref a3), .val (.ref a4), .val (.int (0 : Int32)), .val (.int (1 : Int32))] [])
  refine g_iload X15 K (q := 100) d1_98 rfl rfl ?_
  refine g_istore X15 K (q := 102) (L' := #[.val (.ref a1), .val (.int (0 : Int32)), .val (.int (1 : Int32)), .val (.ref a2), .val (.ref a3), .val (.ref a4), .val (.int (1 : Int32)), .val (.int (1 : Int32))]) d1_100 rfl rfl ?_
  refine g_goto X15 K (q := 52) d1_102 (by decide) (by decide) ?_
  refine g_iload X15 K (q := 54) d1_52 rfl rfl ?_
  refine g_aload X15 K (q := 56) d1_54 rfl rfl rfl ?_
  have ne4 : a4 ≠ b7 := (Nat.ne_of_lt (Nat.lt_of_lt_of_le A_1.lt sz7))
  have ne5 : a4 ≠ b9 := (Nat.ne_of_lt (Nat.lt_of_lt_of_le A_1.lt sz9))
  have f21 := ((f16.keep Kc13 (ninS ne4 nin0)).keep Kc15 (ninS ne5 nin0))
  refine g_len X15 K (q := 57) rfl f21 d1_56 rfl ?_
  refine g_icN X15 K (q := 60) d1_57 (by decide) rfl ?_
  refine g_aload X15 K (q := 62) d1_60 rfl rfl rfl ?_
  refine g_aload X15 K (q := 64) d1_62 rfl rfl rfl ?_
  refine g_len X15 K (q := 65) rfl f21 d1_64 rfl ?_
  refine g_iload X15 K (q := 67) d1_65 rfl rfl ?_
  refine g_static X15 K (q := 70) (W := 0) (w24 H) (w25 H) (w26 H) (w27 H) (by decide) (rm3_4 l H a4 k1 T15.heap Ol15 f21) rfl rfl (argsL := [(.ref a4), (.int (3 : Int32)), (.int (1 : Int32))]) (rest := []) (lenOf pd_0 rfl) rfl rfl (Nat.le_of_eq rfl) d1_67 (by decide) (by decide) (by decide) (by decide) rfl ?_
  rintro T16 v16 L16 X16 ⟨rfl, N16q, e16⟩
  have N16 := Fr.app N15 N16q
  show Go p e below _ T16 (mkF m 70 #[.val (.ref a1), .val (.int (0 : Int32)), .val (.int (1 : Int32)), .val (.ref a2), .val (.ref a3), .val (.ref a4), .val (.int (1 : Int32)), .val (.int (1 : Int32))] [(.int (2 : Int32))])
  refine g_istore X16 K (q := 72) (L' := #[.val (.ref a1), .val (.int (0 : Int32)), .val (.int (1 : Int32)), .val (.ref a2), .val (.ref a3), .val (.ref a4), .val (.int (1 : Int32)), .val (.int (2 : Int32))]) d1_70 rfl rfl ?_
  refine g_aloadN X16 K (q := 73) d1_72 rfl rfl rfl ?_
  have f22 := ((f17.keep Kc13 (ninS ne1 nin0)).keep Kc15 (ninS ne2 nin0))
  refine g_getf X16 K (q := 76) (w20 H) Via.refl e16 f22 d1_73 rfl ?_
  intro T17 X17 e17
  refine g_iload X17 K (q := 78) d1_76 rfl rfl ?_
  refine g_iload X17 K (q := 80) d1_78 rfl rfl ?_
  refine g_iload X17 K (q := 82) d1_80 rfl rfl ?_
  have f23 := (g1.keep Kc15 (ninS ne3 nin0))
  refine g_static X17 K (q := 85) (W := 0) (w28 H) (w29 H) (w30 H) (w31 H) (by decide) (rm4_6 l H b7 kA7 T15.heap Ol15 f23 ge7) e17 rfl (argsL := [(.ref b7), (.int (1 : Int32)), (.int (2 : Int32)), (.int (1 : Int32))]) (rest := []) (lenOf pd_2 rfl) rfl rfl (Nat.le_of_eq rfl) d1_82 (by decide) (by decide) (by decide) (by decide) rfl ?_
  rintro T18 v18 L18 X18 ⟨rfl, N18q, Kc18, g3⟩
  have N18 := Fr.app N16 N18q
  have Ol18 := Ol15.keep Kc18 (allS ge7 all0)
  have Kp18 := Kp15.trans Kc18 (allS (P := fun x => x ∈ _ ∨ _ ≤ x) (Or.inr sz7) all0)
  show Go p e below _ T18 (mkF m 85 #[.val (.ref a1), .val (.int (0 : Int32)), .val (.int (1 : Int32)), .val (.ref a2), .val (.ref a3), .val (.ref a4), .val (.int (1 : Int32)), .val (.int (2 : Int32))] [])
  refine g_aloadN X18 K (q := 86) d1_85 rfl rfl rfl ?_
  have f24 := ((f19.keep Kc15 (ninS ne2 nin0)).keep Kc18 (ninS ne1 nin0))
  refine g_getf X18 K (q := 89) (w22 H) Via.refl rfl f24 d1_86 rfl ?_
  intro T19 X19 e19
  refine g_iload X19 K (q := 91) d1_89 rfl rfl ?_
  refine g_iload X19 K (q := 93) d1_91 rfl rfl ?_
  refine g_iload X19 K (q := 95) d1_93 rfl rfl ?_
  have f25 := (g2.keep Kc18 (ninS (Ne.symm ne3) nin0))
  refine g_static X19 K (q := 98) (W := 0) (w28 H) (w29 H) (w30 H) (w31 H) (by decide) (rm4_7 l H b9 kA9 T18.heap Ol18 f25 ge9) e19 rfl (argsL := [(.ref b9), (.int (1 : Int32)), (.int (2 : Int32)), (.int (2 : Int32))]) (rest := []) (lenOf pd_2 rfl) rfl rfl (Nat.le_of_eq rfl) d1_95 (by decide) (by decide) (by decide) (by decide) rfl ?_
  rintro T20 v20 L20 X20 ⟨rfl, N20q, Kc20, g4⟩
  have N20 := Fr.app N18 N20q
  have Ol20 := Ol18.keep Kc20 (allS ge9 all0)
  have Kp20 := Kp18.trans Kc20 (allS (P := fun x => x ∈ _ ∨ _ ≤ x) (Or.inr sz9) all0)
  show Go p e below _ T20 (mkF m 98 #[.val (.ref a1), .val (.int (0 : Int32)), .val (.int (1 : Int32)), .val (.ref a2), .val (.ref a3), .val (.ref a4), .val (.int (1 : Int32)), .val (.int (2 : Int32))] [])
  refine g_iload X20 K (q := 100) d1_98 rfl rfl ?_
  refine g_istore X20 K (q := 102) (L' := #[.val (.ref a1), .val (.int (0 : Int32)), .val (.int (1 : Int32)), .val (.ref a2), .val (.ref a3), .val (.ref a4), .val (.int (2 : Int32)), .val (.int (2 : Int32))]) d1_100 rfl rfl ?_
  refine g_goto X20 K (q := 52) d1_102 (by decide) (by decide) ?_
  refine g_iload X20 K (q := 54) d1_52 rfl rfl ?_
  refine g_aload X20 K (q := 56) d1_54 rfl rfl rfl ?_
  have f26 := ((f21.keep Kc18 (ninS ne4 nin0)).keep Kc20 (ninS ne5 nin0))
  refine g_len X20 K (q := 57) rfl f26 d1_56 rfl ?_
  refine g_icN X20 K (q := 60) d1_57 (by decide) rfl ?_
  refine g_aload X20 K (q := 62) d1_60 rfl rfl rfl ?_
  refine g_aload X20 K (q := 64) d1_62 rfl rfl rfl ?_
  refine g_len X20 K (q := 65) rfl f26 d1_64 rfl ?_
  refine g_iload X20 K (q := 67) d1_65 rfl rfl ?_
  refine g_static X20 K (q := 70) (W := 0) (w24 H) (w25 H) (w26 H) (w27 H) (by decide) (rm3_8 l H a4 k1 T20.heap Ol20 f26) rfl rfl (argsL := [(.ref a4), (.int (3 : Int32)), (.int (2 : Int32))]) (rest := []) (lenOf pd_0 rfl) rfl rfl (Nat.le_of_eq rfl) d1_67 (by decide) (by decide) (by decide) (by decide) rfl ?_
  rintro T21 v21 L21 X21 ⟨rfl, N21q, e21⟩
  have N21 := Fr.app N20 N21q
  show Go p e below _ T21 (mkF m 70 #[.val (.ref a1), .val (.int (0 : Int32)), .val (.int (1 : Int32)), .val (.ref a2), .val (.ref a3), .val (.ref a4), .val (.int (2 : Int32)), .val (.int (2 : Int32))] [(.int (3 : Int32))])
  refine g_istore X21 K (q := 72) (L' := #[.val (.ref a1), .val (.int (0 : Int32)), .val (.int (1 : Int32)), .val (.ref a2), .val (.ref a3), .val (.ref a4), .val (.int (2 : Int32)), .val (.int (3 : Int32))]) d1_70 rfl rfl ?_
  refine g_aloadN X21 K (q := 73) d1_72 rfl rfl rfl ?_
  have f27 := ((f22.keep Kc18 (ninS ne1 nin0)).keep Kc20 (ninS ne2 nin0))
  refine g_getf X21 K (q := 76) (w20 H) Via.refl e21 f27 d1_73 rfl ?_
  intro T22 X22 e22
  refine g_iload X22 K (q := 78) d1_76 rfl rfl ?_
  refine g_iload X22 K (q := 80) d1_78 rfl rfl ?_
  refine g_iload X22 K (q := 82) d1_80 rfl rfl ?_
  have f28 := (g3.keep Kc20 (ninS ne3 nin0))
  refine g_static X22 K (q := 85) (W := 0) (w28 H) (w29 H) (w30 H) (w31 H) (by decide) (rm4_10 l H b7 kA7 T20.heap Ol20 f28 ge7) e22 rfl (argsL := [(.ref b7), (.int (2 : Int32)), (.int (3 : Int32)), (.int (2 : Int32))]) (rest := []) (lenOf pd_2 rfl) rfl rfl (Nat.le_of_eq rfl) d1_82 (by decide) (by decide) (by decide) (by decide) rfl ?_
  rintro T23 v23 L23 X23 ⟨rfl, N23q, Kc23, g5⟩
  have N23 := Fr.app N21 N23q
  have Ol23 := Ol20.keep Kc23 (allS ge7 all0)
  have Kp23 := Kp20.trans Kc23 (allS (P := fun x => x ∈ _ ∨ _ ≤ x) (Or.inr sz7) all0)
  show Go p e below _ T23 (mkF m 85 #[.val (.ref a1), .val (.int (0 : Int32)), .val (.int (1 : Int32)), .val (.ref a2), .val (.ref a3), .val (.ref a4), .val (.int (2 : Int32)), .val (.int (3 : Int32))] [])
  refine g_aloadN X23 K (q := 86) d1_85 rfl rfl rfl ?_
  have f29 := ((f24.keep Kc20 (ninS ne2 nin0)).keep Kc23 (ninS ne1 nin0))
  refine g_getf X23 K (q := 89) (w22 H) Via.refl rfl f29 d1_86 rfl ?_
  intro T24 X24 e24
  refine g_iload X24 K (q := 91) d1_89 rfl rfl ?_
  refine g_iload X24 K (q := 93) d1_91 rfl rfl ?_
  refine g_iload X24 K (q := 95) d1_93 rfl rfl ?_
  have f30 := (g4.keep Kc23 (ninS (Ne.symm ne3) nin0))
  refine g_static X24 K (q := 98) (W := 0) (w28 H) (w29 H) (w30 H) (w31 H) (by decide) (rm4_11 l H b9 kA9 T23.heap Ol23 f30 ge9) e24 rfl (argsL := [(.ref b9), (.int (2 : Int32)), (.int (3 : Int32)), (.int (3 : Int32))]) (rest := []) (lenOf pd_2 rfl) rfl rfl (Nat.le_of_eq rfl) d1_95 (by decide) (by decide) (by decide) (by decide) rfl ?_
  rintro T25 v25 L25 X25 ⟨rfl, N25q, Kc25, g6⟩
  have N25 := Fr.app N23 N25q
  have Ol25 := Ol23.keep Kc25 (allS ge9 all0)
  have Kp25 := Kp23.trans Kc25 (allS (P := fun x => x ∈ _ ∨ _ ≤ x) (Or.inr sz9) all0)
  show Go p e below _ T25 (mkF m 98 #[.val (.ref a1), .val (.int (0 : Int32)), .val (.int (1 : Int32)), .val (.ref a2), .val (.ref a3), .val (.ref a4), .val (.int (2 : Int32)), .val (.int (3 : Int32))] [])
  refine g_iload X25 K (q := 100) d1_98 rfl rfl ?_
  refine g_istore X25 K (q := 102) (L' := #[.val (.ref a1), .val (.int (0 : Int32)), .val (.int (1 : Int32)), .val (.ref a2), .val (.ref a3), .val (.ref a4), .val (.int (3 : Int32)), .val (.int (3 : Int32))]) d1_100 rfl rfl ?_
  refine g_goto X25 K (q := 52) d1_102 (by decide) (by decide) ?_
  refine g_iload X25 K (q := 54) d1_52 rfl rfl ?_
  refine g_aload X25 K (q := 56) d1_54 rfl rfl rfl ?_
  have f31 := ((f26.keep Kc23 (ninS ne4 nin0)).keep Kc25 (ninS ne5 nin0))
  refine g_len X25 K (q := 57) rfl f31 d1_56 rfl ?_
  refine g_icY X25 K (q := 105) d1_57 (by decide) (by decide) (by decide) ?_
  refine g_ret X25 K d1_105 (by decide) (by decide) ?_
  have f32 := (((((((f15.wr W10).keep Kc13).keep Kc15).keep Kc18).keep Kc20).keep Kc23).keep Kc25)
  have f33 := ((((((((((((((F2.other W3 (Or.inr (slot_ne (a0 := a0) (Or.inr (w11 H)) (Or.inr (w13 H)) (by decide) (t := .int) (t' := .int) (by decide) (by decide)))).other W4 (Or.inr (slot_ne (a0 := a0) (Or.inr (w11 H)) (Or.inr (w15 H)) (by decide) (t := .int) (t' := (.array .int)) (by decide) (by decide)))).other W5 (Or.inr (slot_ne (a0 := a0) (Or.inr (w11 H)) (Or.inr (w17 H)) (by decide) (t := .int) (t' := (.array .int)) (by decide) (by decide)))).other W6 (Or.inr (slot_ne (a0 := a0) (Or.inr (w11 H)) (Or.inr (w19 H)) (by decide) (t := .int) (t' := (.array .int)) (by decide) (by decide)))).ext E7).other W8 (Or.inr (slot_ne (a0 := a0) (Or.inr (w11 H)) (Or.inr (w21 H)) (by decide) (t := .int) (t' := (.array .int)) (by decide) (by decide)))).ext E9).other W10 (Or.inr (slot_ne (a0 := a0) (Or.inr (w11 H)) (Or.inr (w23 H)) (by decide) (t := .int) (t' := (.array .int)) (by decide) (by decide)))).keep Kc13 (ninS ne1 nin0)).keep Kc15 (ninS ne2 nin0)).keep Kc18 (ninS ne1 nin0)).keep Kc20 (ninS ne2 nin0)).keep Kc23 (ninS ne1 nin0)).keep Kc25 (ninS ne2 nin0))
  have f34 := (((((((((((((F3.other W4 (Or.inr (slot_ne (a0 := a0) (Or.inr (w13 H)) (Or.inr (w15 H)) (by decide) (t := .int) (t' := (.array .int)) (by decide) (by decide)))).other W5 (Or.inr (slot_ne (a0 := a0) (Or.inr (w13 H)) (Or.inr (w17 H)) (by decide) (t := .int) (t' := (.array .int)) (by decide) (by decide)))).other W6 (Or.inr (slot_ne (a0 := a0) (Or.inr (w13 H)) (Or.inr (w19 H)) (by decide) (t := .int) (t' := (.array .int)) (by decide) (by decide)))).ext E7).other W8 (Or.inr (slot_ne (a0 := a0) (Or.inr (w13 H)) (Or.inr (w21 H)) (by decide) (t := .int) (t' := (.array .int)) (by decide) (by decide)))).ext E9).other W10 (Or.inr (slot_ne (a0 := a0) (Or.inr (w13 H)) (Or.inr (w23 H)) (by decide) (t := .int) (t' := (.array .int)) (by decide) (by decide)))).keep Kc13 (ninS ne1 nin0)).keep Kc15 (ninS ne2 nin0)).keep Kc18 (ninS ne1 nin0)).keep Kc20 (ninS ne2 nin0)).keep Kc23 (ninS ne1 nin0)).keep Kc25 (ninS ne2 nin0))
  have f35 := ((((((((((((F4.other W5 (Or.inr (slot_ne (a0 := a0) (Or.inr (w15 H)) (Or.inr (w17 H)) (by decide) (t := (.array .int)) (t' := (.array .int)) (by decide) (by decide)))).other W6 (Or.inr (slot_ne (a0 := a0) (Or.inr (w15 H)) (Or.inr (w19 H)) (by decide) (t := (.array .int)) (t' := (.array .int)) (by decide) (by decide)))).ext E7).other W8 (Or.inr (slot_ne (a0 := a0) (Or.inr (w15 H)) (Or.inr (w21 H)) (by decide) (t := (.array .int)) (t' := (.array .int)) (by decide) (by decide)))).ext E9).other W10 (Or.inr (slot_ne (a0 := a0) (Or.inr (w15 H)) (Or.inr (w23 H)) (by decide) (t := (.array .int)) (t' := (.array .int)) (by decide) (by decide)))).keep Kc13 (ninS ne1 nin0)).keep Kc15 (ninS ne2 nin0)).keep Kc18 (ninS ne1 nin0)).keep Kc20 (ninS ne2 nin0)).keep Kc23 (ninS ne1 nin0)).keep Kc25 (ninS ne2 nin0))
  have f36 := (((((((((((F5.other W6 (Or.inr (slot_ne (a0 := a0) (Or.inr (w17 H)) (Or.inr (w19 H)) (by decide) (t := (.array .int)) (t' := (.array .int)) (by decide) (by decide)))).ext E7).other W8 (Or.inr (slot_ne (a0 := a0) (Or.inr (w17 H)) (Or.inr (w21 H)) (by decide) (t := (.array .int)) (t' := (.array .int)) (by decide) (by decide)))).ext E9).other W10 (Or.inr (slot_ne (a0 := a0) (Or.inr (w17 H)) (Or.inr (w23 H)) (by decide) (t := (.array .int)) (t' := (.array .int)) (by decide) (by decide)))).keep Kc13 (ninS ne1 nin0)).keep Kc15 (ninS ne2 nin0)).keep Kc18 (ninS ne1 nin0)).keep Kc20 (ninS ne2 nin0)).keep Kc23 (ninS ne1 nin0)).keep Kc25 (ninS ne2 nin0))
  have f37 := ((((((((((F6.ext E7).other W8 (Or.inr (slot_ne (a0 := a0) (Or.inr (w19 H)) (Or.inr (w21 H)) (by decide) (t := (.array .int)) (t' := (.array .int)) (by decide) (by decide)))).ext E9).other W10 (Or.inr (slot_ne (a0 := a0) (Or.inr (w19 H)) (Or.inr (w23 H)) (by decide) (t := (.array .int)) (t' := (.array .int)) (by decide) (by decide)))).keep Kc13 (ninS ne1 nin0)).keep Kc15 (ninS ne2 nin0)).keep Kc18 (ninS ne1 nin0)).keep Kc20 (ninS ne2 nin0)).keep Kc23 (ninS ne1 nin0)).keep Kc25 (ninS ne2 nin0))
  have f38 := ((f27.keep Kc23 (ninS ne1 nin0)).keep Kc25 (ninS ne2 nin0))
  have f39 := (f29.keep Kc25 (ninS ne2 nin0))
  have f40 := (g5.keep Kc25 (ninS ne3 nin0))
  exact ⟨b7, b9, kA7, kA9, rfl, N25, Kp25, sz7, lk9, f32, f33, f34, f35, f36, f37, f38, f39, f40, g6⟩
set_option maxRecDepth 65536 in
set_option maxHeartbeats 40000000 in
theorem rm7_13 (l : Launch) {Z : State} {a0 : Array Value} (H : Hyp Z a0) (a1 : Addr) (h0 : Heap) (Ol : Old Z Z.heap.size h0) (F_1 : Fld Z h0 a1 "ludarium/rules/BrutusSight" "seat" "I" (.int (0 : Int32))) :
    Mt l Z (⟨"ludarium/rules/BrutusSight", "seat", "()I"⟩ : MethodName) prog_50_method_2_code 1 (some .int) [] ({ frames := 0, cells := 0, slots := 0, locals := 0 } : Room) #[(.ref a1)] h0 (fun v h L => (v = some (.int (0 : Int32)) ∧ Fr Z.heap.size L ∧ h = h0)) := by
  refine g_body (plainFor_of_name pn_ludarium_rules_BrutusSight) ?_
  intro p e s m below meth c T0 K X0 e0
  refine g_entry (ef_13 m a1) ?_
  have N0 : Fr Z.heap.size [] := Fr.nil _
  have Ol0 := Ol
  have Kp0 : Keep h0 h0 [] := Keep.refl h0 _
  refine g_aloadN X0 K (q := 1) d7_0 rfl rfl rfl ?_
  refine g_getf X0 K (q := 4) (w10 H) Via.refl e0 F_1 d7_1 rfl ?_
  intro T1 X1 e1
  refine g_iret X1 K d7_4 (by decide) (by decide) ?_
  exact ⟨rfl, N0, e1⟩
set_option maxRecDepth 65536 in
set_option maxHeartbeats 40000000 in
theorem rm8_14 (l : Launch) {Z : State} {a0 : Array Value} (H : Hyp Z a0) (a1 : Addr) (a2 : Addr) (k1 : ClassId) (h0 : Heap) (Ol : Old Z Z.heap.size h0) (F_1 : Fld Z h0 a1 "ludarium/rules/BrutusSight" "moves" "[I" (.ref a2)) (A_1 : Arv Z h0 a2 k1 .int (3 : Int32) [(.int (0 : Int32)), (.int (0 : Int32)), (.int (0 : Int32))] (.int (0 : Int32))) :
    Mt l Z (⟨"ludarium/rules/BrutusSight", "moves", "()I"⟩ : MethodName) prog_50_method_7_code 1 (some .int) [] ({ frames := 0, cells := 0, slots := 0, locals := 0 } : Room) #[(.ref a1)] h0 (fun v h L => (v = some (.int (3 : Int32)) ∧ Fr Z.heap.size L ∧ h = h0)) := by
  refine g_body (plainFor_of_name pn_ludarium_rules_BrutusSight) ?_
  intro p e s m below meth c T0 K X0 e0
  refine g_entry (ef_13 m a1) ?_
  have N0 : Fr Z.heap.size [] := Fr.nil _
  have Ol0 := Ol
  have Kp0 : Keep h0 h0 [] := Keep.refl h0 _
  refine g_aloadN X0 K (q := 1) d8_0 rfl rfl rfl ?_
  refine g_getf X0 K (q := 4) (w18 H) Via.refl e0 F_1 d8_1 rfl ?_
  intro T1 X1 e1
  refine g_len X1 K (q := 5) e1 A_1 d8_4 rfl ?_
  refine g_iret X1 K d8_5 (by decide) (by decide) ?_
  exact ⟨rfl, N0, e1⟩
set_option maxRecDepth 65536 in
set_option maxHeartbeats 40000000 in
theorem rm9_15 (l : Launch) {Z : State} {a0 : Array Value} (H : Hyp Z a0) (a1 : Addr) (a2 : Addr) (k1 : ClassId) (h0 : Heap) (Ol : Old Z Z.heap.size h0) (F_1 : Fld Z h0 a1 "ludarium/rules/BrutusSight" "dealt" "[I" (.ref a2)) (A_1 : Arv Z h0 a2 k1 .int (2 : Int32) [(.int (2 : Int32)), (.int (2 : Int32))] (.int (0 : Int32))) :
    Mt l Z (⟨"ludarium/rules/BrutusSight", "places", "()I"⟩ : MethodName) prog_50_method_4_code 1 (some .int) [] ({ frames := 0, cells := 0, slots := 0, locals := 0 } : Room) #[(.ref a1)] h0 (fun v h L => (v = some (.int (2 : Int32)) ∧ Fr Z.heap.size L ∧ h = h0)) := by
  refine g_body (plainFor_of_name pn_ludarium_rules_BrutusSight) ?_
  intro p e s m below meth c T0 K X0 e0
  refine g_entry (ef_13 m a1) ?_
  have N0 : Fr Z.heap.size [] := Fr.nil _
  have Ol0 := Ol
  have Kp0 : Keep h0 h0 [] := Keep.refl h0 _
  refine g_aloadN X0 K (q := 1) d9_0 rfl rfl rfl ?_
  refine g_getf X0 K (q := 4) (w14 H) Via.refl e0 F_1 d9_1 rfl ?_
  intro T1 X1 e1
  refine g_len X1 K (q := 5) e1 A_1 d9_4 rfl ?_
  refine g_iret X1 K d9_5 (by decide) (by decide) ?_
  exact ⟨rfl, N0, e1⟩
set_option maxRecDepth 65536 in
set_option maxHeartbeats 40000000 in
theorem rm10_16 (l : Launch) {Z : State} {a0 : Array Value} (H : Hyp Z a0) (a1 : Addr) (a2 : Addr) (k1 : ClassId) (h0 : Heap) (Ol : Old Z Z.heap.size h0) (F_1 : Fld Z h0 a1 "ludarium/rules/BrutusSight" "dealt" "[I" (.ref a2)) (A_1 : Arv Z h0 a2 k1 .int (2 : Int32) [(.int (2 : Int32)), (.int (2 : Int32))] (.int (0 : Int32))) :
    Mt l Z (⟨"ludarium/rules/BrutusSight", "dealt", "(I)I"⟩ : MethodName) prog_50_method_5_code 2 (some .int) [] ({ frames := 0, cells := 0, slots := 0, locals := 0 } : Room) #[(.ref a1), (.int (0 : Int32))] h0 (fun v h L => (v = some (.int (2 : Int32)) ∧ Fr Z.heap.size L ∧ h = h0)) := by
  refine g_body (plainFor_of_name pn_ludarium_rules_BrutusSight) ?_
  intro p e s m below meth c T0 K X0 e0
  refine g_entry (ef_14 m a1) ?_
  have N0 : Fr Z.heap.size [] := Fr.nil _
  have Ol0 := Ol
  have Kp0 : Keep h0 h0 [] := Keep.refl h0 _
  refine g_aloadN X0 K (q := 1) d10_0 rfl rfl rfl ?_
  refine g_getf X0 K (q := 4) (w14 H) Via.refl e0 F_1 d10_1 rfl ?_
  intro T1 X1 e1
  refine g_iloadN X1 K (q := 5) d10_4 rfl rfl ?_
  refine g_iald X1 K (q := 6) (v := (.int (2 : Int32))) e1 A_1 (by decide) rfl d10_5 rfl ?_
  refine g_iret X1 K d10_6 (by decide) (by decide) ?_
  exact ⟨rfl, N0, e1⟩
set_option maxRecDepth 65536 in
set_option maxHeartbeats 40000000 in
theorem rm10_17 (l : Launch) {Z : State} {a0 : Array Value} (H : Hyp Z a0) (a1 : Addr) (a2 : Addr) (k1 : ClassId) (h0 : Heap) (Ol : Old Z Z.heap.size h0) (F_1 : Fld Z h0 a1 "ludarium/rules/BrutusSight" "dealt" "[I" (.ref a2)) (A_1 : Arv Z h0 a2 k1 .int (2 : Int32) [(.int (2 : Int32)), (.int (2 : Int32))] (.int (0 : Int32))) :
    Mt l Z (⟨"ludarium/rules/BrutusSight", "dealt", "(I)I"⟩ : MethodName) prog_50_method_5_code 2 (some .int) [] ({ frames := 0, cells := 0, slots := 0, locals := 0 } : Room) #[(.ref a1), (.int (1 : Int32))] h0 (fun v h L => (v = some (.int (2 : Int32)) ∧ Fr Z.heap.size L ∧ h = h0)) := by
  refine g_body (plainFor_of_name pn_ludarium_rules_BrutusSight) ?_
  intro p e s m below meth c T0 K X0 e0
  refine g_entry (ef_15 m a1) ?_
  have N0 : Fr Z.heap.size [] := Fr.nil _
  have Ol0 := Ol
  have Kp0 : Keep h0 h0 [] := Keep.refl h0 _
  refine g_aloadN X0 K (q := 1) d10_0 rfl rfl rfl ?_
  refine g_getf X0 K (q := 4) (w14 H) Via.refl e0 F_1 d10_1 rfl ?_
  intro T1 X1 e1
  refine g_iloadN X1 K (q := 5) d10_4 rfl rfl ?_
  refine g_iald X1 K (q := 6) (v := (.int (2 : Int32))) e1 A_1 (by decide) rfl d10_5 rfl ?_
  refine g_iret X1 K d10_6 (by decide) (by decide) ?_
  exact ⟨rfl, N0, e1⟩
set_option maxRecDepth 65536 in
set_option maxHeartbeats 40000000 in
theorem rm5_18 (l : Launch) {Z : State} {a0 : Array Value} (H : Hyp Z a0) (h0 : Heap) (Ol : Old Z Z.heap.size h0) :
    Mt l Z (⟨"java/util/Arrays", "rangeCheck", "(III)V"⟩ : MethodName) jdk_65_method_30_code 3 none [] ({ frames := 0, cells := 0, slots := 0, locals := 0 } : Room) #[(.int (4 : Int32)), (.int (0 : Int32)), (.int (2 : Int32))] h0 (fun v h L => (v = none ∧ Fr Z.heap.size L ∧ h = h0)) := by
  refine g_body (plainFor_of_name pn_java_util_Arrays) ?_
  intro p e s m below meth c T0 K X0 e0
  refine g_entry (ef_16 m) ?_
  have N0 : Fr Z.heap.size [] := Fr.nil _
  have Ol0 := Ol
  have Kp0 : Keep h0 h0 [] := Keep.refl h0 _
  refine g_iloadN X0 K (q := 1) d5_0 rfl rfl ?_
  refine g_iloadN X0 K (q := 2) d5_1 rfl rfl ?_
  refine g_icY X0 K (q := 46) d5_2 (by decide) (by decide) (by decide) ?_
  refine g_iloadN X0 K (q := 47) d5_46 rfl rfl ?_
  refine g_ifY X0 K (q := 59) d5_47 (by decide) (by decide) (by decide) ?_
  refine g_iloadN X0 K (q := 60) d5_59 rfl rfl ?_
  refine g_iloadN X0 K (q := 61) d5_60 rfl rfl ?_
  refine g_icY X0 K (q := 73) d5_61 (by decide) (by decide) (by decide) ?_
  refine g_ret X0 K d5_73 (by decide) (by decide) ?_
  exact ⟨rfl, N0, e0⟩
set_option maxRecDepth 65536 in
set_option maxHeartbeats 40000000 in
theorem rm4_19 (l : Launch) {Z : State} {a0 : Array Value} (H : Hyp Z a0) (a1 : Addr) (k1 : ClassId) (h0 : Heap) (Ol : Old Z Z.heap.size h0) (A_1 : Arv Z h0 a1 k1 .int (4 : Int32) [(.int (0 : Int32)), (.int (0 : Int32)), (.int (0 : Int32)), (.int (0 : Int32))] (.int (0 : Int32))) (ge_1 : Z.heap.size ≤ a1) :
    Mt l Z (⟨"java/util/Arrays", "fill", "([IIII)V"⟩ : MethodName) jdk_65_method_104_code 5 none [] ({ frames := 1, cells := 0, slots := 0, locals := 14 } : Room) #[(.ref a1), (.int (0 : Int32)), (.int (2 : Int32)), (.int (0 : Int32))] h0 (fun v h L => (v = none ∧ Fr Z.heap.size L ∧ Keep h0 h [a1] ∧ Arv Z h a1 k1 .int (4 : Int32) [(.int (0 : Int32)), (.int (0 : Int32)), (.int (0 : Int32)), (.int (0 : Int32))] (.int (0 : Int32)))) := by
  refine g_body (plainFor_of_name pn_java_util_Arrays) ?_
  intro p e s m below meth c T0 K X0 e0
  refine g_entry (ef_17 m a1) ?_
  have N0 : Fr Z.heap.size [] := Fr.nil _
  have Ol0 := Ol
  have Kp0 : Keep h0 h0 [a1] := Keep.refl h0 _
  refine g_aloadN X0 K (q := 1) d4_0 rfl rfl rfl ?_
  refine g_len X0 K (q := 2) e0 A_1 d4_1 rfl ?_
  refine g_iloadN X0 K (q := 3) d4_2 rfl rfl ?_
  refine g_iloadN X0 K (q := 4) d4_3 rfl rfl ?_
  refine g_static X0 K (q := 7) (W := 0) (w32 H) (w33 H) (w30 H) (w34 H) (by decide) (rm5_18 l H h0 Ol0) e0 rfl (argsL := [(.int (4 : Int32)), (.int (0 : Int32)), (.int (2 : Int32))]) (rest := []) (lenOf pd_1 rfl) rfl rfl (Nat.le_of_eq rfl) d4_4 (by decide) (by decide) (by decide) (by decide) rfl ?_
  rintro T1 v1 L1 X1 ⟨rfl, N1q, e1⟩
  have N1 := Fr.app N0 N1q
  show Go p e below _ T1 (mkF m 7 #[.val (.ref a1), .val (.int (0 : Int32)), .val (.int (2 : Int32)), .val (.int (0 : Int32)), .unset] [])
  refine g_iloadN X1 K (q := 8) d4_7 rfl rfl ?_
  refine g_istore X1 K (q := 10) (L' := #[.val (.ref a1), .val (.int (0 : Int32)), .val (.int (2 : Int32)), .val (.int (0 : Int32)), .val (.int (0 : Int32))]) d4_8 rfl rfl ?_
  refine g_iload X1 K (q := 12) d4_10 rfl rfl ?_
  refine g_iloadN X1 K (q := 13) d4_12 rfl rfl ?_
  refine g_icN X1 K (q := 16) d4_13 (by decide) rfl ?_
  refine g_aloadN X1 K (q := 17) d4_16 rfl rfl rfl ?_
  refine g_iload X1 K (q := 19) d4_17 rfl rfl ?_
  refine g_iloadN X1 K (q := 20) d4_19 rfl rfl ?_
  refine g_iast X1 K (q := 21) (vs' := [(.int (0 : Int32)), (.int (0 : Int32)), (.int (0 : Int32)), (.int (0 : Int32))]) e1 A_1 (by decide) (Nat.le_of_ble_eq_true rfl) rfl d4_20 rfl ?_
  intro T2 h2 X2 e2 W2 F2
  have N2 := Fr.snoc X2 N1 ge_1
  have Ol2 := Ol0.wr W2 ge_1
  have Kp2 := Kp0.wr W2 (Or.inl (List.mem_of_getElem? (i := 0) rfl))
  refine g_iinc X2 K (q := 24) (z := (1 : Int32)) (L' := #[.val (.ref a1), .val (.int (0 : Int32)), .val (.int (2 : Int32)), .val (.int (0 : Int32)), .val (.int (1 : Int32))]) d4_21 rfl (by decide) rfl rfl ?_
  refine g_goto X2 K (q := 10) d4_24 (by decide) (by decide) ?_
  refine g_iload X2 K (q := 12) d4_10 rfl rfl ?_
  refine g_iloadN X2 K (q := 13) d4_12 rfl rfl ?_
  refine g_icN X2 K (q := 16) d4_13 (by decide) rfl ?_
  refine g_aloadN X2 K (q := 17) d4_16 rfl rfl rfl ?_
  refine g_iload X2 K (q := 19) d4_17 rfl rfl ?_
  refine g_iloadN X2 K (q := 20) d4_19 rfl rfl ?_
  refine g_iast X2 K (q := 21) (vs' := [(.int (0 : Int32)), (.int (0 : Int32)), (.int (0 : Int32)), (.int (0 : Int32))]) e2 F2 (by decide) (Nat.le_of_ble_eq_true rfl) rfl d4_20 rfl ?_
  intro T3 h3 X3 e3 W3 F3
  have N3 := Fr.snoc X3 N2 ge_1
  have Ol3 := Ol2.wr W3 ge_1
  have Kp3 := Kp2.wr W3 (Or.inl (List.mem_of_getElem? (i := 0) rfl))
  refine g_iinc X3 K (q := 24) (z := (2 : Int32)) (L' := #[.val (.ref a1), .val (.int (0 : Int32)), .val (.int (2 : Int32)), .val (.int (0 : Int32)), .val (.int (2 : Int32))]) d4_21 rfl (by decide) rfl rfl ?_
  refine g_goto X3 K (q := 10) d4_24 (by decide) (by decide) ?_
  refine g_iload X3 K (q := 12) d4_10 rfl rfl ?_
  refine g_iloadN X3 K (q := 13) d4_12 rfl rfl ?_
  refine g_icY X3 K (q := 27) d4_13 (by decide) (by decide) (by decide) ?_
  refine g_ret X3 K d4_27 (by decide) (by decide) ?_
  have Kp : Keep h0 T3.heap [a1] := by rw [e3]; exact Kp3
  exact ⟨rfl, N3, Kp, (by rw [e3]; exact F3)⟩
set_option maxRecDepth 65536 in
set_option maxHeartbeats 40000000 in
theorem rm5_20 (l : Launch) {Z : State} {a0 : Array Value} (H : Hyp Z a0) (h0 : Heap) (Ol : Old Z Z.heap.size h0) :
    Mt l Z (⟨"java/util/Arrays", "rangeCheck", "(III)V"⟩ : MethodName) jdk_65_method_30_code 3 none [] ({ frames := 0, cells := 0, slots := 0, locals := 0 } : Room) #[(.int (4 : Int32)), (.int (2 : Int32)), (.int (4 : Int32))] h0 (fun v h L => (v = none ∧ Fr Z.heap.size L ∧ h = h0)) := by
  refine g_body (plainFor_of_name pn_java_util_Arrays) ?_
  intro p e s m below meth c T0 K X0 e0
  refine g_entry (ef_18 m) ?_
  have N0 : Fr Z.heap.size [] := Fr.nil _
  have Ol0 := Ol
  have Kp0 : Keep h0 h0 [] := Keep.refl h0 _
  refine g_iloadN X0 K (q := 1) d5_0 rfl rfl ?_
  refine g_iloadN X0 K (q := 2) d5_1 rfl rfl ?_
  refine g_icY X0 K (q := 46) d5_2 (by decide) (by decide) (by decide) ?_
  refine g_iloadN X0 K (q := 47) d5_46 rfl rfl ?_
  refine g_ifY X0 K (q := 59) d5_47 (by decide) (by decide) (by decide) ?_
  refine g_iloadN X0 K (q := 60) d5_59 rfl rfl ?_
  refine g_iloadN X0 K (q := 61) d5_60 rfl rfl ?_
  refine g_icY X0 K (q := 73) d5_61 (by decide) (by decide) (by decide) ?_
  refine g_ret X0 K d5_73 (by decide) (by decide) ?_
  exact ⟨rfl, N0, e0⟩
set_option maxRecDepth 65536 in
set_option maxHeartbeats 40000000 in
theorem rm4_21 (l : Launch) {Z : State} {a0 : Array Value} (H : Hyp Z a0) (a1 : Addr) (k1 : ClassId) (h0 : Heap) (Ol : Old Z Z.heap.size h0) (A_1 : Arv Z h0 a1 k1 .int (4 : Int32) [(.int (0 : Int32)), (.int (0 : Int32)), (.int (0 : Int32)), (.int (0 : Int32))] (.int (0 : Int32))) (ge_1 : Z.heap.size ≤ a1) :
    Mt l Z (⟨"java/util/Arrays", "fill", "([IIII)V"⟩ : MethodName) jdk_65_method_104_code 5 none [] ({ frames := 1, cells := 0, slots := 0, locals := 14 } : Room) #[(.ref a1), (.int (2 : Int32)), (.int (4 : Int32)), (.int (1 : Int32))] h0 (fun v h L => (v = none ∧ Fr Z.heap.size L ∧ Keep h0 h [a1] ∧ Arv Z h a1 k1 .int (4 : Int32) [(.int (0 : Int32)), (.int (0 : Int32)), (.int (1 : Int32)), (.int (1 : Int32))] (.int (0 : Int32)))) := by
  refine g_body (plainFor_of_name pn_java_util_Arrays) ?_
  intro p e s m below meth c T0 K X0 e0
  refine g_entry (ef_19 m a1) ?_
  have N0 : Fr Z.heap.size [] := Fr.nil _
  have Ol0 := Ol
  have Kp0 : Keep h0 h0 [a1] := Keep.refl h0 _
  refine g_aloadN X0 K (q := 1) d4_0 rfl rfl rfl ?_
  refine g_len X0 K (q := 2) e0 A_1 d4_1 rfl ?_
  refine g_iloadN X0 K (q := 3) d4_2 rfl rfl ?_
  refine g_iloadN X0 K (q := 4) d4_3 rfl rfl ?_
  refine g_static X0 K (q := 7) (W := 0) (w32 H) (w33 H) (w30 H) (w34 H) (by decide) (rm5_20 l H h0 Ol0) e0 rfl (argsL := [(.int (4 : Int32)), (.int (2 : Int32)), (.int (4 : Int32))]) (rest := []) (lenOf pd_1 rfl) rfl rfl (Nat.le_of_eq rfl) d4_4 (by decide) (by decide) (by decide) (by decide) rfl ?_
  rintro T1 v1 L1 X1 ⟨rfl, N1q, e1⟩
  have N1 := Fr.app N0 N1q
  show Go p e below _ T1 (mkF m 7 #[.val (.ref a1), .val (.int (2 : Int32)), .val (.int (4 : Int32)), .val (.int (1 : Int32)), .unset] [])
  refine g_iloadN X1 K (q := 8) d4_7 rfl rfl ?_
  refine g_istore X1 K (q := 10) (L' := #[.val (.ref a1), .val (.int (2 : Int32)), .val (.int (4 : Int32)), .val (.int (1 : Int32)), .val (.int (2 : Int32))]) d4_8 rfl rfl ?_
  refine g_iload X1 K (q := 12) d4_10 rfl rfl ?_
  refine g_iloadN X1 K (q := 13) d4_12 rfl rfl ?_
  refine g_icN X1 K (q := 16) d4_13 (by decide) rfl ?_
  refine g_aloadN X1 K (q := 17) d4_16 rfl rfl rfl ?_
  refine g_iload X1 K (q := 19) d4_17 rfl rfl ?_
  refine g_iloadN X1 K (q := 20) d4_19 rfl rfl ?_
  refine g_iast X1 K (q := 21) (vs' := [(.int (0 : Int32)), (.int (0 : Int32)), (.int (1 : Int32)), (.int (0 : Int32))]) e1 A_1 (by decide) (Nat.le_of_ble_eq_true rfl) rfl d4_20 rfl ?_
  intro T2 h2 X2 e2 W2 F2
  have N2 := Fr.snoc X2 N1 ge_1
  have Ol2 := Ol0.wr W2 ge_1
  have Kp2 := Kp0.wr W2 (Or.inl (List.mem_of_getElem? (i := 0) rfl))
  refine g_iinc X2 K (q := 24) (z := (3 : Int32)) (L' := #[.val (.ref a1), .val (.int (2 : Int32)), .val (.int (4 : Int32)), .val (.int (1 : Int32)), .val (.int (3 : Int32))]) d4_21 rfl (by decide) rfl rfl ?_
  refine g_goto X2 K (q := 10) d4_24 (by decide) (by decide) ?_
  refine g_iload X2 K (q := 12) d4_10 rfl rfl ?_
  refine g_iloadN X2 K (q := 13) d4_12 rfl rfl ?_
  refine g_icN X2 K (q := 16) d4_13 (by decide) rfl ?_
  refine g_aloadN X2 K (q := 17) d4_16 rfl rfl rfl ?_
  refine g_iload X2 K (q := 19) d4_17 rfl rfl ?_
  refine g_iloadN X2 K (q := 20) d4_19 rfl rfl ?_
  refine g_iast X2 K (q := 21) (vs' := [(.int (0 : Int32)), (.int (0 : Int32)), (.int (1 : Int32)), (.int (1 : Int32))]) e2 F2 (by decide) (Nat.le_of_ble_eq_true rfl) rfl d4_20 rfl ?_
  intro T3 h3 X3 e3 W3 F3
  have N3 := Fr.snoc X3 N2 ge_1
  have Ol3 := Ol2.wr W3 ge_1
  have Kp3 := Kp2.wr W3 (Or.inl (List.mem_of_getElem? (i := 0) rfl))
  refine g_iinc X3 K (q := 24) (z := (4 : Int32)) (L' := #[.val (.ref a1), .val (.int (2 : Int32)), .val (.int (4 : Int32)), .val (.int (1 : Int32)), .val (.int (4 : Int32))]) d4_21 rfl (by decide) rfl rfl ?_
  refine g_goto X3 K (q := 10) d4_24 (by decide) (by decide) ?_
  refine g_iload X3 K (q := 12) d4_10 rfl rfl ?_
  refine g_iloadN X3 K (q := 13) d4_12 rfl rfl ?_
  refine g_icY X3 K (q := 27) d4_13 (by decide) (by decide) (by decide) ?_
  refine g_ret X3 K d4_27 (by decide) (by decide) ?_
  have Kp : Keep h0 T3.heap [a1] := by rw [e3]; exact Kp3
  exact ⟨rfl, N3, Kp, (by rw [e3]; exact F3)⟩
set_option maxRecDepth 65536 in
set_option maxHeartbeats 40000000 in
theorem rm6_22 (l : Launch) {Z : State} {a0 : Array Value} (H : Hyp Z a0) (a1 : Addr) (a2 : Addr) (a3 : Addr) (k1 : ClassId) (a4 : Addr) (k2 : ClassId) (h0 : Heap) (Ol : Old Z Z.heap.size h0) (E_1 : Exa Z h0 a1 "ludarium/rules/BrutusWalk") (F_1 : Fld Z h0 a1 "ludarium/rules/BrutusWalk" "unclaimed" "[I" .null) (F_2 : Fld Z h0 a1 "ludarium/rules/BrutusWalk" "claimed" "[Ljava/util/BitSet;" .null) (F_3 : Fld Z h0 a1 "ludarium/rules/BrutusWalk" "sight" "Lludarium/rules/BrutusSight;" .null) (F_4 : Fld Z h0 a1 "ludarium/rules/BrutusWalk" "seat" "I" (.int (0 : Int32))) (F_5 : Fld Z h0 a1 "ludarium/rules/BrutusWalk" "moved" "[I" .null) (F_6 : Fld Z h0 a1 "ludarium/rules/BrutusWalk" "carried" "[Ljava/util/BitSet;" .null) (F_7 : Fld Z h0 a1 "ludarium/rules/BrutusWalk" "dealtTo" "[I" .null) (F_8 : Fld Z h0 a1 "ludarium/rules/BrutusWalk" "values" "[I" .null) (F_9 : Fld Z h0 a1 "ludarium/rules/BrutusWalk" "held" "[[I" .null) (F_10 : Fld Z h0 a1 "ludarium/rules/BrutusWalk" "heldCount" "[I" .null) (F_11 : Fld Z h0 a1 "ludarium/rules/BrutusWalk" "shaped" "[Ljava/util/BitSet;" .null) (ge_1 : Z.heap.size ≤ a1) (F_12 : Fld Z h0 a2 "ludarium/rules/BrutusSight" "seat" "I" (.int (0 : Int32))) (ne_1 : a2 ≠ a1) (E_2 : Exa Z h0 a2 "ludarium/rules/BrutusSight") (F_13 : Fld Z h0 a2 "ludarium/rules/BrutusSight" "moves" "[I" (.ref a3)) (A_1 : Arv Z h0 a3 k1 .int (3 : Int32) [(.int (0 : Int32)), (.int (0 : Int32)), (.int (0 : Int32))] (.int (0 : Int32))) (ne_2 : a3 ≠ a1) (F_14 : Fld Z h0 a2 "ludarium/rules/BrutusSight" "dealt" "[I" (.ref a4)) (A_2 : Arv Z h0 a4 k2 .int (2 : Int32) [(.int (2 : Int32)), (.int (2 : Int32))] (.int (0 : Int32))) (ne_3 : a4 ≠ a1) :
    Mt l Z (⟨"ludarium/rules/BrutusWalk", "<init>", "(Lludarium/rules/BrutusSight;)V"⟩ : MethodName) prog_53_method_1_code 6 none [] ({ frames := 2, cells := 11, slots := 56, locals := 30 } : Room) #[(.ref a1), (.ref a2)] h0 (fun v h L => (∃ (b2 : Addr), ∃ (b4 : Addr), ∃ (b10 : Addr), ∃ (b13 : Addr), ∃ (b18 : Addr), ∃ (b20 : Addr), ∃ (b22 : Addr), ∃ (b22_0 : Addr), ∃ (b22_1 : Addr), ∃ (b24 : Addr), ∃ (b26 : Addr), ∃ (kA2 : ClassId), ∃ (kA4 : ClassId), ∃ (kA10 : ClassId), ∃ (kA13 : ClassId), ∃ (kA18 : ClassId), ∃ (kA20 : ClassId), ∃ (kA22 : ClassId), ∃ (kI22 : ClassId), ∃ (kI22 : ClassId), ∃ (kA24 : ClassId), ∃ (kA26 : ClassId), v = none ∧ Fr Z.heap.size L ∧ Keep h0 h [a1] ∧ h0.size ≤ b2 ∧ b2 < b4 ∧ b4 < b10 ∧ b10 < b13 ∧ b13 < b18 ∧ b18 < b20 ∧ b20 < b22 ∧ b22 < b22_0 ∧ b22_0 < b22_1 ∧ b22_1 < b24 ∧ b24 < b26 ∧ Exa Z h a1 "ludarium/rules/BrutusWalk" ∧ Fld Z h a1 "ludarium/rules/BrutusWalk" "unclaimed" "[I" (.ref b2) ∧ Fld Z h a1 "ludarium/rules/BrutusWalk" "claimed" "[Ljava/util/BitSet;" (.ref b4) ∧ Fld Z h a1 "ludarium/rules/BrutusWalk" "sight" "Lludarium/rules/BrutusSight;" (.ref a2) ∧ Fld Z h a1 "ludarium/rules/BrutusWalk" "seat" "I" (.int (0 : Int32)) ∧ Fld Z h a1 "ludarium/rules/BrutusWalk" "moved" "[I" (.ref b10) ∧ Fld Z h a1 "ludarium/rules/BrutusWalk" "carried" "[Ljava/util/BitSet;" (.ref b13) ∧ Fld Z h a1 "ludarium/rules/BrutusWalk" "dealtTo" "[I" (.ref b18) ∧ Fld Z h a1 "ludarium/rules/BrutusWalk" "values" "[I" (.ref b20) ∧ Fld Z h a1 "ludarium/rules/BrutusWalk" "held" "[[I" (.ref b22) ∧ Fld Z h a1 "ludarium/rules/BrutusWalk" "heldCount" "[I" (.ref b24) ∧ Fld Z h a1 "ludarium/rules/BrutusWalk" "shaped" "[Ljava/util/BitSet;" (.ref b26) ∧ Arv Z h b2 kA2 .int (14 : Int32) [(.int (0 : Int32)), (.int (0 : Int32)), (.int (0 : Int32)), (.int (0 : Int32)), (.int (0 : Int32)), (.int (0 : Int32)), (.int (0 : Int32)), (.int (0 : Int32)), (.int (0 : Int32)), (.int (0 : Int32)), (.int (0 : Int32)), (.int (0 : Int32)), (.int (0 : Int32)), (.int (0 : Int32))] (.int (0 : Int32)) ∧ Arv Z h b4 kA4 (.object "java/util/BitSet") (14 : Int32) [.null, .null, .null, .null, .null, .null, .null, .null, .null, .null, .null, .null, .null, .null] .null ∧ Ovr Z kA4 "java/util/BitSet" ∧ Arv Z h b10 kA10 .int (3 : Int32) [(.int (0 : Int32)), (.int (0 : Int32)), (.int (0 : Int32))] (.int (0 : Int32)) ∧ Arv Z h b13 kA13 (.object "java/util/BitSet") (3 : Int32) [.null, .null, .null] .null ∧ Ovr Z kA13 "java/util/BitSet" ∧ Arv Z h b18 kA18 .int (4 : Int32) [(.int (0 : Int32)), (.int (0 : Int32)), (.int (1 : Int32)), (.int (1 : Int32))] (.int (0 : Int32)) ∧ Arv Z h b20 kA20 .int (4 : Int32) [(.int (0 : Int32)), (.int (0 : Int32)), (.int (0 : Int32)), (.int (0 : Int32))] (.int (0 : Int32)) ∧ Arv Z h b22 kA22 (.array .int) (2 : Int32) [(.ref b22_0), (.ref b22_1)] .null ∧ Arv Z h b22_0 kI22 .int (4 : Int32) [(.int (0 : Int32)), (.int (0 : Int32)), (.int (0 : Int32)), (.int (0 : Int32))] (.int (0 : Int32)) ∧ Arv Z h b22_1 kI22 .int (4 : Int32) [(.int (0 : Int32)), (.int (0 : Int32)), (.int (0 : Int32)), (.int (0 : Int32))] (.int (0 : Int32)) ∧ Arv Z h b24 kA24 .int (2 : Int32) [(.int (0 : Int32)), (.int (0 : Int32))] (.int (0 : Int32)) ∧ Arv Z h b26 kA26 (.object "java/util/BitSet") (2 : Int32) [.null, .null] .null ∧ Ovr Z kA26 "java/util/BitSet")) := by
  refine g_body (plainFor_of_name pn_ludarium_rules_BrutusWalk) ?_
  intro p e s m below meth c T0 K X0 e0
  refine g_entry (ef_20 m a1 a2) ?_
  have N0 : Fr Z.heap.size [] := Fr.nil _
  have Ol0 := Ol
  have Kp0 : Keep h0 h0 [a1] := Keep.refl h0 _
  refine g_aloadN X0 K (q := 1) d6_0 rfl rfl rfl ?_
  refine g_init X0 K (q := 4) (W := 0) (w41 H) (w8 H) (w9 H) e0 rfl d6_1 (by decide) (Nat.le_of_eq rfl) (by decide) rfl ?_
  intro T1 X1 e1
  refine g_aloadN X1 K (q := 5) d6_4 rfl rfl rfl ?_
  refine g_bipush X1 K (q := 7) (v := (14 : Int32)) d6_5 (by decide) rfl ?_
  refine g_newp X1 K (q := 9) (cap := 14) (ty := .int) (vs := [(.int (0 : Int32)), (.int (0 : Int32)), (.int (0 : Int32)), (.int (0 : Int32)), (.int (0 : Int32)), (.int (0 : Int32)), (.int (0 : Int32)), (.int (0 : Int32)), (.int (0 : Int32)), (.int (0 : Int32)), (.int (0 : Int32)), (.int (0 : Int32)), (.int (0 : Int32)), (.int (0 : Int32))]) (w3 H) rfl e1 d6_7 (by decide) (by decide) rfl (by decide) (by decide) (by decide) rfl ?_
  intro T2 h2 b2 kA2 X2 e2 E2 z2 A2
  have sz2 : h0.size ≤ b2 := Nat.le_trans Kp0.1 (Nat.le_of_eq z2)
  have ge2 : Z.heap.size ≤ b2 := Nat.le_trans Ol0.2.1 (Nat.le_of_eq z2)
  have Ol2 := Ol0.ext E2
  have Kp2 := Kp0.ext E2
  have f1 := (F_1.ext E2)
  have f2 := (E_1.ext E2)
  refine g_putf X2 K (q := 12) (w42 H) Via.refl e2 f1 f2 (Or.inr ⟨(w43 H), rfl, rfl⟩) (w36 H) (ty := (.array .int)) (by decide) rfl rfl d6_9 rfl ?_
  intro T3 h3 X3 e3 W3 F3
  have N3 := Fr.snoc X3 N0 ge_1
  have Ol3 := Ol2.wr W3 ge_1
  have Kp3 := Kp2.wr W3 (Or.inl (List.mem_of_getElem? (i := 0) rfl))
  refine g_aloadN X3 K (q := 13) d6_12 rfl rfl rfl ?_
  refine g_bipush X3 K (q := 15) (v := (14 : Int32)) d6_13 (by decide) rfl ?_
  refine g_newr X3 K (q := 18) (cap := 14) (vs := [.null, .null, .null, .null, .null, .null, .null, .null, .null, .null, .null, .null, .null, .null]) (w44 H) (w45 H) e3 d6_15 (by decide) (by decide) rfl (by decide) (by decide) (by decide) rfl ?_
  intro T4 h4 b4 kA4 X4 e4 E4 z4 A4 O4
  have sz4 : h0.size ≤ b4 := Nat.le_trans Kp3.1 (Nat.le_of_eq z4)
  have ge4 : Z.heap.size ≤ b4 := Nat.le_trans Ol3.2.1 (Nat.le_of_eq z4)
  have ne1 : a1 ≠ b2 := (Nat.ne_of_lt (Nat.lt_of_lt_of_le E_1.lt sz2))
  have f3 := (A2.other W3 (Ne.symm ne1))
  have lk4 : b2 < b4 := Nat.lt_of_lt_of_eq f3.lt z4
  have Ol4 := Ol3.ext E4
  have Kp4 := Kp3.ext E4
  have f4 := (((F_2.ext E2).other W3 (Or.inr (slot_ne (a0 := a0) (Or.inr (w47 H)) (Or.inr (w43 H)) (by decide) (t := (.array (.object "java/util/BitSet"))) (t' := (.array .int)) (by decide) (by decide)))).ext E4)
  have f5 := ((f2.wr W3).ext E4)
  refine g_putf X4 K (q := 21) (w46 H) Via.refl e4 f4 f5 (Or.inr ⟨(w47 H), rfl, rfl⟩) (w36 H) (ty := (.array (.object "java/util/BitSet"))) (by decide) rfl rfl d6_18 rfl ?_
  intro T5 h5 X5 e5 W5 F5
  have N5 := Fr.snoc X5 N3 ge_1
  have Ol5 := Ol4.wr W5 ge_1
  have Kp5 := Kp4.wr W5 (Or.inl (List.mem_of_getElem? (i := 0) rfl))
  refine g_aloadN X5 K (q := 22) d6_21 rfl rfl rfl ?_
  refine g_aloadN X5 K (q := 23) d6_22 rfl rfl rfl ?_
  have f6 := ((((F_3.ext E2).other W3 (Or.inr (slot_ne (a0 := a0) (Or.inr (w49 H)) (Or.inr (w43 H)) (by decide) (t := (.object "ludarium/rules/BrutusSight")) (t' := (.array .int)) (by decide) (by decide)))).ext E4).other W5 (Or.inr (slot_ne (a0 := a0) (Or.inr (w49 H)) (Or.inr (w47 H)) (by decide) (t := (.object "ludarium/rules/BrutusSight")) (t' := (.array (.object "java/util/BitSet"))) (by decide) (by decide))))
  have f7 := (f5.wr W5)
  refine g_putf X5 K (q := 26) (w48 H) Via.refl e5 f6 f7 (Or.inr ⟨(w49 H), rfl, rfl⟩) (w36 H) (ty := (.object "ludarium/rules/BrutusSight")) (by decide) rfl rfl d6_23 rfl ?_
  intro T6 h6 X6 e6 W6 F6
  have N6 := Fr.snoc X6 N5 ge_1
  have Ol6 := Ol5.wr W6 ge_1
  have Kp6 := Kp5.wr W6 (Or.inl (List.mem_of_getElem? (i := 0) rfl))
  refine g_aloadN X6 K (q := 27) d6_26 rfl rfl rfl ?_
  refine g_aloadN X6 K (q := 28) d6_27 rfl rfl rfl ?_
  have f8 := (((((F_12.ext E2).other W3 (Or.inl ne_1)).ext E4).other W5 (Or.inl ne_1)).other W6 (Or.inl ne_1))
  have f9 := (((((E_2.ext E2).wr W3).ext E4).wr W5).wr W6)
  refine g_virtual X6 K (q := 31) (W := 1) (a := a2) (w50 H) (w51 H) (nf_self K (w53 H)) (w53 H) (w52 H) (w2 H) (w54 H) (by decide) (rm7_13 l H a2 h6 Ol6 f8) e6 f9 rfl (argsL := []) (rest := [(.ref a1)]) (lenOf pd_4 rfl) rfl rfl (Nat.le_of_eq rfl) d6_28 (by decide) (by decide) (by decide) (by decide) rfl ?_
  rintro T7 v7 L7 X7 ⟨rfl, N7q, e7⟩
  have N7 := Fr.app N6 N7q
  show Go p e below _ T7 (mkF m 31 #[.val (.ref a1), .val (.ref a2), .unset, .unset, .unset, .unset] [(.int (0 : Int32)), (.ref a1)])
  have f10 := (((((F_4.ext E2).other W3 (Or.inr (slot_ne (a0 := a0) (Or.inr (w56 H)) (Or.inr (w43 H)) (by decide) (t := .int) (t' := (.array .int)) (by decide) (by decide)))).ext E4).other W5 (Or.inr (slot_ne (a0 := a0) (Or.inr (w56 H)) (Or.inr (w47 H)) (by decide) (t := .int) (t' := (.array (.object "java/util/BitSet"))) (by decide) (by decide)))).other W6 (Or.inr (slot_ne (a0 := a0) (Or.inr (w56 H)) (Or.inr (w49 H)) (by decide) (t := .int) (t' := (.object "ludarium/rules/BrutusSight")) (by decide) (by decide))))
  have f11 := (f7.wr W6)
  refine g_putf X7 K (q := 34) (w55 H) Via.refl e7 f10 f11 (Or.inr ⟨(w56 H), rfl, rfl⟩) (w36 H) (ty := .int) (by decide) rfl rfl d6_31 rfl ?_
  intro T8 h8 X8 e8 W8 F8
  have N8 := Fr.snoc X8 N7 ge_1
  have Ol8 := Ol6.wr W8 ge_1
  have Kp8 := Kp6.wr W8 (Or.inl (List.mem_of_getElem? (i := 0) rfl))
  refine g_aloadN X8 K (q := 35) d6_34 rfl rfl rfl ?_
  refine g_aloadN X8 K (q := 36) d6_35 rfl rfl rfl ?_
  have f12 := ((((((F_13.ext E2).other W3 (Or.inl ne_1)).ext E4).other W5 (Or.inl ne_1)).other W6 (Or.inl ne_1)).other W8 (Or.inl ne_1))
  have f13 := ((((((A_1.ext E2).other W3 ne_2).ext E4).other W5 ne_2).other W6 ne_2).other W8 ne_2)
  have f14 := (f9.wr W8)
  refine g_virtual X8 K (q := 39) (W := 1) (a := a2) (w57 H) (w58 H) (nf_self K (w60 H)) (w60 H) (w59 H) (w2 H) (w61 H) (by decide) (rm8_14 l H a2 a3 k1 h8 Ol8 f12 f13) e8 f14 rfl (argsL := []) (rest := [(.ref a1)]) (lenOf pd_4 rfl) rfl rfl (Nat.le_of_eq rfl) d6_36 (by decide) (by decide) (by decide) (by decide) rfl ?_
  rintro T9 v9 L9 X9 ⟨rfl, N9q, e9⟩
  have N9 := Fr.app N8 N9q
  show Go p e below _ T9 (mkF m 39 #[.val (.ref a1), .val (.ref a2), .unset, .unset, .unset, .unset] [(.int (3 : Int32)), (.ref a1)])
  refine g_newp X9 K (q := 41) (cap := 3) (ty := .int) (vs := [(.int (0 : Int32)), (.int (0 : Int32)), (.int (0 : Int32))]) (w3 H) rfl e9 d6_39 (by decide) (by decide) rfl (by decide) (by decide) (by decide) rfl ?_
  intro T10 h10 b10 kA10 X10 e10 E10 z10 A10
  have sz10 : h0.size ≤ b10 := Nat.le_trans Kp8.1 (Nat.le_of_eq z10)
  have ge10 : Z.heap.size ≤ b10 := Nat.le_trans Ol8.2.1 (Nat.le_of_eq z10)
  have ne2 : a1 ≠ b4 := (Nat.ne_of_lt (Nat.lt_of_lt_of_le E_1.lt sz4))
  have f15 := (((A4.other W5 (Ne.symm ne2)).other W6 (Ne.symm ne2)).other W8 (Ne.symm ne2))
  have lk10 : b4 < b10 := Nat.lt_of_lt_of_eq f15.lt z10
  have Ol10 := Ol8.ext E10
  have Kp10 := Kp8.ext E10
  have f16 := (((((((F_5.ext E2).other W3 (Or.inr (slot_ne (a0 := a0) (Or.inr (w63 H)) (Or.inr (w43 H)) (by decide) (t := (.array .int)) (t' := (.array .int)) (by decide) (by decide)))).ext E4).other W5 (Or.inr (slot_ne (a0 := a0) (Or.inr (w63 H)) (Or.inr (w47 H)) (by decide) (t := (.array .int)) (t' := (.array (.object "java/util/BitSet"))) (by decide) (by decide)))).other W6 (Or.inr (slot_ne (a0 := a0) (Or.inr (w63 H)) (Or.inr (w49 H)) (by decide) (t := (.array .int)) (t' := (.object "ludarium/rules/BrutusSight")) (by decide) (by decide)))).other W8 (Or.inr (slot_ne (a0 := a0) (Or.inr (w63 H)) (Or.inr (w56 H)) (by decide) (t := (.array .int)) (t' := .int) (by decide) (by decide)))).ext E10)
  have f17 := ((f11.wr W8).ext E10)
  refine g_putf X10 K (q := 44) (w62 H) Via.refl e10 f16 f17 (Or.inr ⟨(w63 H), rfl, rfl⟩) (w36 H) (ty := (.array .int)) (by decide) rfl rfl d6_41 rfl ?_
  intro T11 h11 X11 e11 W11 F11
  have N11 := Fr.snoc X11 N9 ge_1
  have Ol11 := Ol10.wr W11 ge_1
  have Kp11 := Kp10.wr W11 (Or.inl (List.mem_of_getElem? (i := 0) rfl))
  refine g_aloadN X11 K (q := 45) d6_44 rfl rfl rfl ?_
  refine g_aloadN X11 K (q := 46) d6_45 rfl rfl rfl ?_
  have f18 := ((f12.ext E10).other W11 (Or.inl ne_1))
  have f19 := ((f13.ext E10).other W11 ne_2)
  have f20 := ((f14.ext E10).wr W11)
  refine g_virtual X11 K (q := 49) (W := 1) (a := a2) (w57 H) (w58 H) (nf_self K (w60 H)) (w60 H) (w59 H) (w2 H) (w61 H) (by decide) (rm8_14 l H a2 a3 k1 h11 Ol11 f18 f19) e11 f20 rfl (argsL := []) (rest := [(.ref a1)]) (lenOf pd_4 rfl) rfl rfl (Nat.le_of_eq rfl) d6_46 (by decide) (by decide) (by decide) (by decide) rfl ?_
  rintro T12 v12 L12 X12 ⟨rfl, N12q, e12⟩
  have N12 := Fr.app N11 N12q
  show Go p e below _ T12 (mkF m 49 #[.val (.ref a1), .val (.ref a2), .unset, .unset, .unset, .unset] [(.int (3 : Int32)), (.ref a1)])
  refine g_newr X12 K (q := 52) (cap := 3) (vs := [.null, .null, .null]) (w44 H) (w45 H) e12 d6_49 (by decide) (by decide) rfl (by decide) (by decide) (by decide) rfl ?_
  intro T13 h13 b13 kA13 X13 e13 E13 z13 A13 O13
  have sz13 : h0.size ≤ b13 := Nat.le_trans Kp11.1 (Nat.le_of_eq z13)
  have ge13 : Z.heap.size ≤ b13 := Nat.le_trans Ol11.2.1 (Nat.le_of_eq z13)
  have ne3 : a1 ≠ b10 := (Nat.ne_of_lt (Nat.lt_of_lt_of_le E_1.lt sz10))
  have f21 := (A10.other W11 (Ne.symm ne3))
  have lk13 : b10 < b13 := Nat.lt_of_lt_of_eq f21.lt z13
  have Ol13 := Ol11.ext E13
  have Kp13 := Kp11.ext E13
  have f22 := (((((((((F_6.ext E2).other W3 (Or.inr (slot_ne (a0 := a0) (Or.inr (w65 H)) (Or.inr (w43 H)) (by decide) (t := (.array (.object "java/util/BitSet"))) (t' := (.array .int)) (by decide) (by decide)))).ext E4).other W5 (Or.inr (slot_ne (a0 := a0) (Or.inr (w65 H)) (Or.inr (w47 H)) (by decide) (t := (.array (.object "java/util/BitSet"))) (t' := (.array (.object "java/util/BitSet"))) (by decide) (by decide)))).other W6 (Or.inr (slot_ne (a0 := a0) (Or.inr (w65 H)) (Or.inr (w49 H)) (by decide) (t := (.array (.object "java/util/BitSet"))) (t' := (.object "ludarium/rules/BrutusSight")) (by decide) (by decide)))).other W8 (Or.inr (slot_ne (a0 := a0) (Or.inr (w65 H)) (Or.inr (w56 H)) (by decide) (t := (.array (.object "java/util/BitSet"))) (t' := .int) (by decide) (by decide)))).ext E10).other W11 (Or.inr (slot_ne (a0 := a0) (Or.inr (w65 H)) (Or.inr (w63 H)) (by decide) (t := (.array (.object "java/util/BitSet"))) (t' := (.array .int)) (by decide) (by decide)))).ext E13)
  have f23 := ((f17.wr W11).ext E13)
  refine g_putf X13 K (q := 55) (w64 H) Via.refl e13 f22 f23 (Or.inr ⟨(w65 H), rfl, rfl⟩) (w36 H) (ty := (.array (.object "java/util/BitSet"))) (by decide) rfl rfl d6_52 rfl ?_
  intro T14 h14 X14 e14 W14 F14
  have N14 := Fr.snoc X14 N12 ge_1
  have Ol14 := Ol13.wr W14 ge_1
  have Kp14 := Kp13.wr W14 (Or.inl (List.mem_of_getElem? (i := 0) rfl))
  refine g_aloadN X14 K (q := 56) d6_55 rfl rfl rfl ?_
  have f24 := ((((((((((F_14.ext E2).other W3 (Or.inl ne_1)).ext E4).other W5 (Or.inl ne_1)).other W6 (Or.inl ne_1)).other W8 (Or.inl ne_1)).ext E10).other W11 (Or.inl ne_1)).ext E13).other W14 (Or.inl ne_1))
  have f25 := ((((((((((A_2.ext E2).other W3 ne_3).ext E4).other W5 ne_3).other W6 ne_3).other W8 ne_3).ext E10).other W11 ne_3).ext E13).other W14 ne_3)
  have f26 := ((f20.ext E13).wr W14)
  refine g_virtual X14 K (q := 59) (W := 0) (a := a2) (w66 H) (w67 H) (nf_self K (w69 H)) (w69 H) (w68 H) (w2 H) (w70 H) (by decide) (rm9_15 l H a2 a4 k2 h14 Ol14 f24 f25) e14 f26 rfl (argsL := []) (rest := []) (lenOf pd_4 rfl) rfl rfl (Nat.le_of_eq rfl) d6_56 (by decide) (by decide) (by decide) (by decide) rfl ?_
  rintro T15 v15 L15 X15 ⟨rfl, N15q, e15⟩
  have N15 := Fr.app N14 N15q
  show Go p e below _ T15 (mkF m 59 #[.val (.ref a1), .val (.ref a2), .unset, .unset, .unset, .unset] [(.int (2 : Int32))])
  refine g_istoreN X15 K (q := 60) (L' := #[.val (.ref a1), .val (.ref a2), .val (.int (2 : Int32)), .unset, .unset, .unset]) d6_59 rfl rfl ?_
  refine g_iconst X15 K (q := 61) (v := (0 : Int32)) d6_60 (by decide) rfl ?_
  refine g_istoreN X15 K (q := 62) (L' := #[.val (.ref a1), .val (.ref a2), .val (.int (2 : Int32)), .val (.int (0 : Int32)), .unset, .unset]) d6_61 rfl rfl ?_
  refine g_iconst X15 K (q := 63) (v := (0 : Int32)) d6_62 (by decide) rfl ?_
  refine g_istore X15 K (q := 65) (L' := #[.val (.ref a1), .val (.ref a2), .val (.int (2 : Int32)), .val (.int (0 : Int32)), .val (.int (0 : Int32)), .unset]) d6_63 rfl rfl ?_
  refine g_iload X15 K (q := 67) d6_65 rfl rfl ?_
  refine g_iloadN X15 K (q := 68) d6_67 rfl rfl ?_
  refine g_icN X15 K (q := 71) d6_68 (by decide) rfl ?_
  refine g_iloadN X15 K (q := 72) d6_71 rfl rfl ?_
  refine g_aloadN X15 K (q := 73) d6_72 rfl rfl rfl ?_
  refine g_iload X15 K (q := 75) d6_73 rfl rfl ?_
  refine g_virtual X15 K (q := 78) (W := 1) (a := a2) (w71 H) (w72 H) (nf_self K (w74 H)) (w74 H) (w73 H) (w2 H) (w75 H) (by decide) (rm10_16 l H a2 a4 k2 h14 Ol14 f24 f25) e15 f26 rfl (argsL := [(.int (0 : Int32))]) (rest := [(.int (0 : Int32))]) (lenOf pd_5 rfl) rfl rfl (Nat.le_of_eq rfl) d6_75 (by decide) (by decide) (by decide) (by decide) rfl ?_
  rintro T16 v16 L16 X16 ⟨rfl, N16q, e16⟩
  have N16 := Fr.app N15 N16q
  show Go p e below _ T16 (mkF m 78 #[.val (.ref a1), .val (.ref a2), .val (.int (2 : Int32)), .val (.int (0 : Int32)), .val (.int (0 : Int32)), .unset] [(.int (2 : Int32)), (.int (0 : Int32))])
  refine g_iadd X16 K (q := 79) d6_78 (z := (2 : Int32)) (by decide) rfl ?_
  refine g_istoreN X16 K (q := 80) (L' := #[.val (.ref a1), .val (.ref a2), .val (.int (2 : Int32)), .val (.int (2 : Int32)), .val (.int (0 : Int32)), .unset]) d6_79 rfl rfl ?_
  refine g_iinc X16 K (q := 83) (z := (1 : Int32)) (L' := #[.val (.ref a1), .val (.ref a2), .val (.int (2 : Int32)), .val (.int (2 : Int32)), .val (.int (1 : Int32)), .unset]) d6_80 rfl (by decide) rfl rfl ?_
  refine g_goto X16 K (q := 65) d6_83 (by decide) (by decide) ?_
  refine g_iload X16 K (q := 67) d6_65 rfl rfl ?_
  refine g_iloadN X16 K (q := 68) d6_67 rfl rfl ?_
  refine g_icN X16 K (q := 71) d6_68 (by decide) rfl ?_
  refine g_iloadN X16 K (q := 72) d6_71 rfl rfl ?_
  refine g_aloadN X16 K (q := 73) d6_72 rfl rfl rfl ?_
  refine g_iload X16 K (q := 75) d6_73 rfl rfl ?_
  refine g_virtual X16 K (q := 78) (W := 1) (a := a2) (w71 H) (w72 H) (nf_self K (w74 H)) (w74 H) (w73 H) (w2 H) (w75 H) (by decide) (rm10_17 l H a2 a4 k2 h14 Ol14 f24 f25) e16 f26 rfl (argsL := [(.int (1 : Int32))]) (rest := [(.int (2 : Int32))]) (lenOf pd_5 rfl) rfl rfl (Nat.le_of_eq rfl) d6_75 (by decide) (by decide) (by decide) (by decide) rfl ?_
  rintro T17 v17 L17 X17 ⟨rfl, N17q, e17⟩
  have N17 := Fr.app N16 N17q
  show Go p e below _ T17 (mkF m 78 #[.val (.ref a1), .val (.ref a2), .val (.int (2 : Int32)), .val (.int (2 : Int32)), .val (.int (1 : Int32)), .unset] [(.int (2 : Int32)), (.int (2 : Int32))])
  refine g_iadd X17 K (q := 79) d6_78 (z := (4 : Int32)) (by decide) rfl ?_
  refine g_istoreN X17 K (q := 80) (L' := #[.val (.ref a1), .val (.ref a2), .val (.int (2 : Int32)), .val (.int (4 : Int32)), .val (.int (1 : Int32)), .unset]) d6_79 rfl rfl ?_
  refine g_iinc X17 K (q := 83) (z := (2 : Int32)) (L' := #[.val (.ref a1), .val (.ref a2), .val (.int (2 : Int32)), .val (.int (4 : Int32)), .val (.int (2 : Int32)), .unset]) d6_80 rfl (by decide) rfl rfl ?_
  refine g_goto X17 K (q := 65) d6_83 (by decide) (by decide) ?_
  refine g_iload X17 K (q := 67) d6_65 rfl rfl ?_
  refine g_iloadN X17 K (q := 68) d6_67 rfl rfl ?_
  refine g_icY X17 K (q := 86) d6_68 (by decide) (by decide) (by decide) ?_
  refine g_aloadN X17 K (q := 87) d6_86 rfl rfl rfl ?_
  refine g_iloadN X17 K (q := 88) d6_87 rfl rfl ?_
  refine g_newp X17 K (q := 90) (cap := 4) (ty := .int) (vs := [(.int (0 : Int32)), (.int (0 : Int32)), (.int (0 : Int32)), (.int (0 : Int32))]) (w3 H) rfl e17 d6_88 (by decide) (by decide) rfl (by decide) (by decide) (by decide) rfl ?_
  intro T18 h18 b18 kA18 X18 e18 E18 z18 A18
  have sz18 : h0.size ≤ b18 := Nat.le_trans Kp14.1 (Nat.le_of_eq z18)
  have ge18 : Z.heap.size ≤ b18 := Nat.le_trans Ol14.2.1 (Nat.le_of_eq z18)
  have ne4 : a1 ≠ b13 := (Nat.ne_of_lt (Nat.lt_of_lt_of_le E_1.lt sz13))
  have f27 := (A13.other W14 (Ne.symm ne4))
  have lk18 : b13 < b18 := Nat.lt_of_lt_of_eq f27.lt z18
  have Ol18 := Ol14.ext E18
  have Kp18 := Kp14.ext E18
  have f28 := (((((((((((F_7.ext E2).other W3 (Or.inr (slot_ne (a0 := a0) (Or.inr (w77 H)) (Or.inr (w43 H)) (by decide) (t := (.array .int)) (t' := (.array .int)) (by decide) (by decide)))).ext E4).other W5 (Or.inr (slot_ne (a0 := a0) (Or.inr (w77 H)) (Or.inr (w47 H)) (by decide) (t := (.array .int)) (t' := (.array (.object "java/util/BitSet"))) (by decide) (by decide)))).other W6 (Or.inr (slot_ne (a0 := a0) (Or.inr (w77 H)) (Or.inr (w49 H)) (by decide) (t := (.array .int)) (t' := (.object "ludarium/rules/BrutusSight")) (by decide) (by decide)))).other W8 (Or.inr (slot_ne (a0 := a0) (Or.inr (w77 H)) (Or.inr (w56 H)) (by decide) (t := (.array .int)) (t' := .int) (by decide) (by decide)))).ext E10).other W11 (Or.inr (slot_ne (a0 := a0) (Or.inr (w77 H)) (Or.inr (w63 H)) (by decide) (t := (.array .int)) (t' := (.array .int)) (by decide) (by decide)))).ext E13).other W14 (Or.inr (slot_ne (a0 := a0) (Or.inr (w77 H)) (Or.inr (w65 H)) (by decide) (t := (.array .int)) (t' := (.array (.object "java/util/BitSet"))) (by decide) (by decide)))).ext E18)
  have f29 := ((f23.wr W14).ext E18)
  refine g_putf X18 K (q := 93) (w76 H) Via.refl e18 f28 f29 (Or.inr ⟨(w77 H), rfl, rfl⟩) (w36 H) (ty := (.array .int)) (by decide) rfl rfl d6_90 rfl ?_
  intro T19 h19 X19 e19 W19 F19
  have N19 := Fr.snoc X19 N17 ge_1
  have Ol19 := Ol18.wr W19 ge_1
  have Kp19 := Kp18.wr W19 (Or.inl (List.mem_of_getElem? (i := 0) rfl))
  refine g_aloadN X19 K (q := 94) d6_93 rfl rfl rfl ?_
  refine g_iloadN X19 K (q := 95) d6_94 rfl rfl ?_
  refine g_newp X19 K (q := 97) (cap := 4) (ty := .int) (vs := [(.int (0 : Int32)), (.int (0 : Int32)), (.int (0 : Int32)), (.int (0 : Int32))]) (w3 H) rfl e19 d6_95 (by decide) (by decide) rfl (by decide) (by decide) (by decide) rfl ?_
  intro T20 h20 b20 kA20 X20 e20 E20 z20 A20
  have sz20 : h0.size ≤ b20 := Nat.le_trans Kp19.1 (Nat.le_of_eq z20)
  have ge20 : Z.heap.size ≤ b20 := Nat.le_trans Ol19.2.1 (Nat.le_of_eq z20)
  have ne5 : a1 ≠ b18 := (Nat.ne_of_lt (Nat.lt_of_lt_of_le E_1.lt sz18))
  have f30 := (A18.other W19 (Ne.symm ne5))
  have lk20 : b18 < b20 := Nat.lt_of_lt_of_eq f30.lt z20
  have Ol20 := Ol19.ext E20
  have Kp20 := Kp19.ext E20
  have f31 := (((((((((((((F_8.ext E2).other W3 (Or.inr (slot_ne (a0 := a0) (Or.inr (w79 H)) (Or.inr (w43 H)) (by decide) (t := (.array .int)) (t' := (.array .int)) (by decide) (by decide)))).ext E4).other W5 (Or.inr (slot_ne (a0 := a0) (Or.inr (w79 H)) (Or.inr (w47 H)) (by decide) (t := (.array .int)) (t' := (.array (.object "java/util/BitSet"))) (by decide) (by decide)))).other W6 (Or.inr (slot_ne (a0 := a0) (Or.inr (w79 H)) (Or.inr (w49 H)) (by decide) (t := (.array .int)) (t' := (.object "ludarium/rules/BrutusSight")) (by decide) (by decide)))).other W8 (Or.inr (slot_ne (a0 := a0) (Or.inr (w79 H)) (Or.inr (w56 H)) (by decide) (t := (.array .int)) (t' := .int) (by decide) (by decide)))).ext E10).other W11 (Or.inr (slot_ne (a0 := a0) (Or.inr (w79 H)) (Or.inr (w63 H)) (by decide) (t := (.array .int)) (t' := (.array .int)) (by decide) (by decide)))).ext E13).other W14 (Or.inr (slot_ne (a0 := a0) (Or.inr (w79 H)) (Or.inr (w65 H)) (by decide) (t := (.array .int)) (t' := (.array (.object "java/util/BitSet"))) (by decide) (by decide)))).ext E18).other W19 (Or.inr (slot_ne (a0 := a0) (Or.inr (w79 H)) (Or.inr (w77 H)) (by decide) (t := (.array .int)) (t' := (.array .int)) (by decide) (by decide)))).ext E20)
  have f32 := ((f29.wr W19).ext E20)
  refine g_putf X20 K (q := 100) (w78 H) Via.refl e20 f31 f32 (Or.inr ⟨(w79 H), rfl, rfl⟩) (w36 H) (ty := (.array .int)) (by decide) rfl rfl d6_97 rfl ?_
  intro T21 h21 X21 e21 W21 F21
  have N21 := Fr.snoc X21 N19 ge_1
  have Ol21 := Ol20.wr W21 ge_1
  have Kp21 := Kp20.wr W21 (Or.inl (List.mem_of_getElem? (i := 0) rfl))
  refine g_aloadN X21 K (q := 101) d6_100 rfl rfl rfl ?_
  refine g_iloadN X21 K (q := 102) d6_101 rfl rfl ?_
  refine g_iloadN X21 K (q := 103) d6_102 rfl rfl ?_
  refine g_grid X21 K (q := 107) (N := 2) (cap := 4) (ty := .int) (vs := [(.int (0 : Int32)), (.int (0 : Int32)), (.int (0 : Int32)), (.int (0 : Int32))]) (C := "[I") (ad := "[[I") (by decide) (by decide) (w80 H) (w81 H) (w3 H) e21 d6_103 (by decide) (by decide) (by decide) (by decide) rfl (by decide) (by decide) rfl rfl (by decide) (by decide) rfl ?_
  intro T22 h22 b22 kA22 kI22 X22 e22 E22 z22 A22q I22
  have sz22 : h0.size ≤ b22 := Nat.le_trans Kp21.1 (Nat.le_of_eq z22)
  have ge22 : Z.heap.size ≤ b22 := Nat.le_trans Ol21.2.1 (Nat.le_of_eq z22)
  have ne6 : a1 ≠ b20 := (Nat.ne_of_lt (Nat.lt_of_lt_of_le E_1.lt sz20))
  have f33 := (A20.other W21 (Ne.symm ne6))
  have lk22 : b20 < b22 := Nat.lt_of_lt_of_eq f33.lt z22
  have Ol22 := Ol21.ext E22
  have Kp22 := Kp21.ext E22
  obtain ⟨b22_0, hz22_0⟩ : ∃ z, b22 + 1 + 0 = z := ⟨_, rfl⟩
  have A22_0 : Arv Z h22 b22_0 kI22 .int (4 : Int32) [(.int (0 : Int32)), (.int (0 : Int32)), (.int (0 : Int32)), (.int (0 : Int32))] (.int (0 : Int32)) := hz22_0 ▸ I22 0 (by decide)
  have lk22_0 : b22 < b22_0 := by rw [← hz22_0]; exact Nat.lt_succ_self _
  have ge22_0 : Z.heap.size ≤ b22_0 := Nat.le_trans ge22 (Nat.le_of_lt lk22_0)
  have sz22_0 : h0.size ≤ b22_0 := Nat.le_trans sz22 (Nat.le_of_lt lk22_0)
  obtain ⟨b22_1, hz22_1⟩ : ∃ z, b22 + 1 + 1 = z := ⟨_, rfl⟩
  have A22_1 : Arv Z h22 b22_1 kI22 .int (4 : Int32) [(.int (0 : Int32)), (.int (0 : Int32)), (.int (0 : Int32)), (.int (0 : Int32))] (.int (0 : Int32)) := hz22_1 ▸ I22 1 (by decide)
  have lk22_1 : b22_0 < b22_1 := by rw [← hz22_0, ← hz22_1]; exact Nat.add_lt_add_left (by decide) _
  have ge22_1 : Z.heap.size ≤ b22_1 := Nat.le_trans ge22_0 (Nat.le_of_lt lk22_1)
  have sz22_1 : h0.size ≤ b22_1 := Nat.le_trans sz22_0 (Nat.le_of_lt lk22_1)
  have A22 : Arv Z h22 b22 kA22 (.array .int) (2 : Int32) [(.ref b22_0), (.ref b22_1)] .null := by rw [← hz22_0, ← hz22_1]; exact A22q
  have f34 := (((((((((((((((F_9.ext E2).other W3 (Or.inr (slot_ne (a0 := a0) (Or.inr (w83 H)) (Or.inr (w43 H)) (by decide) (t := (.array (.array .int))) (t' := (.array .int)) (by decide) (by decide)))).ext E4).other W5 (Or.inr (slot_ne (a0 := a0) (Or.inr (w83 H)) (Or.inr (w47 H)) (by decide) (t := (.array (.array .int))) (t' := (.array (.object "java/util/BitSet"))) (by decide) (by decide)))).other W6 (Or.inr (slot_ne (a0 := a0) (Or.inr (w83 H)) (Or.inr (w49 H)) (by decide) (t := (.array (.array .int))) (t' := (.object "ludarium/rules/BrutusSight")) (by decide) (by decide)))).other W8 (Or.inr (slot_ne (a0 := a0) (Or.inr (w83 H)) (Or.inr (w56 H)) (by decide) (t := (.array (.array .int))) (t' := .int) (by decide) (by decide)))).ext E10).other W11 (Or.inr (slot_ne (a0 := a0) (Or.inr (w83 H)) (Or.inr (w63 H)) (by decide) (t := (.array (.array .int))) (t' := (.array .int)) (by decide) (by decide)))).ext E13).other W14 (Or.inr (slot_ne (a0 := a0) (Or.inr (w83 H)) (Or.inr (w65 H)) (by decide) (t := (.array (.array .int))) (t' := (.array (.object "java/util/BitSet"))) (by decide) (by decide)))).ext E18).other W19 (Or.inr (slot_ne (a0 := a0) (Or.inr (w83 H)) (Or.inr (w77 H)) (by decide) (t := (.array (.array .int))) (t' := (.array .int)) (by decide) (by decide)))).ext E20).other W21 (Or.inr (slot_ne (a0 := a0) (Or.inr (w83 H)) (Or.inr (w79 H)) (by decide) (t := (.array (.array .int))) (t' := (.array .int)) (by decide) (by decide)))).ext E22)
  have f35 := ((f32.wr W21).ext E22)
  refine g_putf X22 K (q := 110) (w82 H) Via.refl e22 f34 f35 (Or.inr ⟨(w83 H), rfl, rfl⟩) (w36 H) (ty := (.array (.array .int))) (by decide) rfl rfl d6_107 rfl ?_
  intro T23 h23 X23 e23 W23 F23
  have N23 := Fr.snoc X23 N21 ge_1
  have Ol23 := Ol22.wr W23 ge_1
  have Kp23 := Kp22.wr W23 (Or.inl (List.mem_of_getElem? (i := 0) rfl))
  refine g_aloadN X23 K (q := 111) d6_110 rfl rfl rfl ?_
  refine g_iloadN X23 K (q := 112) d6_111 rfl rfl ?_
  refine g_newp X23 K (q := 114) (cap := 2) (ty := .int) (vs := [(.int (0 : Int32)), (.int (0 : Int32))]) (w3 H) rfl e23 d6_112 (by decide) (by decide) rfl (by decide) (by decide) (by decide) rfl ?_
  intro T24 h24 b24 kA24 X24 e24 E24 z24 A24
  have sz24 : h0.size ≤ b24 := Nat.le_trans Kp23.1 (Nat.le_of_eq z24)
  have ge24 : Z.heap.size ≤ b24 := Nat.le_trans Ol23.2.1 (Nat.le_of_eq z24)
  have ne7 : a1 ≠ b22_1 := (Nat.ne_of_lt (Nat.lt_of_lt_of_le E_1.lt sz22_1))
  have f36 := (A22_1.other W23 (Ne.symm ne7))
  have lk24 : b22_1 < b24 := Nat.lt_of_lt_of_eq f36.lt z24
  have Ol24 := Ol23.ext E24
  have Kp24 := Kp23.ext E24
  have f37 := (((((((((((((((((F_10.ext E2).other W3 (Or.inr (slot_ne (a0 := a0) (Or.inr (w85 H)) (Or.inr (w43 H)) (by decide) (t := (.array .int)) (t' := (.array .int)) (by decide) (by decide)))).ext E4).other W5 (Or.inr (slot_ne (a0 := a0) (Or.inr (w85 H)) (Or.inr (w47 H)) (by decide) (t := (.array .int)) (t' := (.array (.object "java/util/BitSet"))) (by decide) (by decide)))).other W6 (Or.inr (slot_ne (a0 := a0) (Or.inr (w85 H)) (Or.inr (w49 H)) (by decide) (t := (.array .int)) (t' := (.object "ludarium/rules/BrutusSight")) (by decide) (by decide)))).other W8 (Or.inr (slot_ne (a0 := a0) (Or.inr (w85 H)) (Or.inr (w56 H)) (by decide) (t := (.array .int)) (t' := .int) (by decide) (by decide)))).ext E10).other W11 (Or.inr (slot_ne (a0 := a0) (Or.inr (w85 H)) (Or.inr (w63 H)) (by decide) (t := (.array .int)) (t' := (.array .int)) (by decide) (by decide)))).ext E13).other W14 (Or.inr (slot_ne (a0 := a0) (Or.inr (w85 H)) (Or.inr (w65 H)) (by decide) (t := (.array .int)) (t' := (.array (.object "java/util/BitSet"))) (by decide) (by decide)))).ext E18).other W19 (Or.inr (slot_ne (a0 := a0) (Or.inr (w85 H)) (Or.inr (w77 H)) (by decide) (t := (.array .int)) (t' := (.array .int)) (by decide) (by decide)))).ext E20).other W21 (Or.inr (slot_ne (a0 := a0) (Or.inr (w85 H)) (Or.inr (w79 H)) (by decide) (t := (.array .int)) (t' := (.array .int)) (by decide) (by decide)))).ext E22).other W23 (Or.inr (slot_ne (a0 := a0) (Or.inr (w85 H)) (Or.inr (w83 H)) (by decide) (t := (.array .int)) (t' := (.array (.array .int))) (by decide) (by decide)))).ext E24)
  have f38 := ((f35.wr W23).ext E24)
  refine g_putf X24 K (q := 117) (w84 H) Via.refl e24 f37 f38 (Or.inr ⟨(w85 H), rfl, rfl⟩) (w36 H) (ty := (.array .int)) (by decide) rfl rfl d6_114 rfl ?_
  intro T25 h25 X25 e25 W25 F25
  have N25 := Fr.snoc X25 N23 ge_1
  have Ol25 := Ol24.wr W25 ge_1
  have Kp25 := Kp24.wr W25 (Or.inl (List.mem_of_getElem? (i := 0) rfl))
  refine g_aloadN X25 K (q := 118) d6_117 rfl rfl rfl ?_
  refine g_iloadN X25 K (q := 119) d6_118 rfl rfl ?_
  refine g_newr X25 K (q := 122) (cap := 2) (vs := [.null, .null]) (w44 H) (w45 H) e25 d6_119 (by decide) (by decide) rfl (by decide) (by decide) (by decide) rfl ?_
  intro T26 h26 b26 kA26 X26 e26 E26 z26 A26 O26
  have sz26 : h0.size ≤ b26 := Nat.le_trans Kp25.1 (Nat.le_of_eq z26)
  have ge26 : Z.heap.size ≤ b26 := Nat.le_trans Ol25.2.1 (Nat.le_of_eq z26)
  have ne8 : a1 ≠ b24 := (Nat.ne_of_lt (Nat.lt_of_lt_of_le E_1.lt sz24))
  have f39 := (A24.other W25 (Ne.symm ne8))
  have lk26 : b24 < b26 := Nat.lt_of_lt_of_eq f39.lt z26
  have Ol26 := Ol25.ext E26
  have Kp26 := Kp25.ext E26
  have f40 := (((((((((((((((((((F_11.ext E2).other W3 (Or.inr (slot_ne (a0 := a0) (Or.inr (w87 H)) (Or.inr (w43 H)) (by decide) (t := (.array (.object "java/util/BitSet"))) (t' := (.array .int)) (by decide) (by decide)))).ext E4).other W5 (Or.inr (slot_ne (a0 := a0) (Or.inr (w87 H)) (Or.inr (w47 H)) (by decide) (t := (.array (.object "java/util/BitSet"))) (t' := (.array (.object "java/util/BitSet"))) (by decide) (by decide)))).other W6 (Or.inr (slot_ne (a0 := a0) (Or.inr (w87 H)) (Or.inr (w49 H)) (by decide) (t := (.array (.object "java/util/BitSet"))) (t' := (.object "ludarium/rules/BrutusSight")) (by decide) (by decide)))).other W8 (Or.inr (slot_ne (a0 := a0) (Or.inr (w87 H)) (Or.inr (w56 H)) (by decide) (t := (.array (.object "java/util/BitSet"))) (t' := .int) (by decide) (by decide)))).ext E10).other W11 (Or.inr (slot_ne (a0 := a0) (Or.inr (w87 H)) (Or.inr (w63 H)) (by decide) (t := (.array (.object "java/util/BitSet"))) (t' := (.array .int)) (by decide) (by decide)))).ext E13).other W14 (Or.inr (slot_ne (a0 := a0) (Or.inr (w87 H)) (Or.inr (w65 H)) (by decide) (t := (.array (.object "java/util/BitSet"))) (t' := (.array (.object "java/util/BitSet"))) (by decide) (by decide)))).ext E18).other W19 (Or.inr (slot_ne (a0 := a0) (Or.inr (w87 H)) (Or.inr (w77 H)) (by decide) (t := (.array (.object "java/util/BitSet"))) (t' := (.array .int)) (by decide) (by decide)))).ext E20).other W21 (Or.inr (slot_ne (a0 := a0) (Or.inr (w87 H)) (Or.inr (w79 H)) (by decide) (t := (.array (.object "java/util/BitSet"))) (t' := (.array .int)) (by decide) (by decide)))).ext E22).other W23 (Or.inr (slot_ne (a0 := a0) (Or.inr (w87 H)) (Or.inr (w83 H)) (by decide) (t := (.array (.object "java/util/BitSet"))) (t' := (.array (.array .int))) (by decide) (by decide)))).ext E24).other W25 (Or.inr (slot_ne (a0 := a0) (Or.inr (w87 H)) (Or.inr (w85 H)) (by decide) (t := (.array (.object "java/util/BitSet"))) (t' := (.array .int)) (by decide) (by decide)))).ext E26)
  have f41 := ((f38.wr W25).ext E26)
  refine g_putf X26 K (q := 125) (w86 H) Via.refl e26 f40 f41 (Or.inr ⟨(w87 H), rfl, rfl⟩) (w36 H) (ty := (.array (.object "java/util/BitSet"))) (by decide) rfl rfl d6_122 rfl ?_
  intro T27 h27 X27 e27 W27 F27
  have N27 := Fr.snoc X27 N25 ge_1
  have Ol27 := Ol26.wr W27 ge_1
  have Kp27 := Kp26.wr W27 (Or.inl (List.mem_of_getElem? (i := 0) rfl))
  refine g_iconst X27 K (q := 126) (v := (0 : Int32)) d6_125 (by decide) rfl ?_
  refine g_istore X27 K (q := 128) (L' := #[.val (.ref a1), .val (.ref a2), .val (.int (2 : Int32)), .val (.int (4 : Int32)), .val (.int (0 : Int32)), .unset]) d6_126 rfl rfl ?_
  refine g_iconst X27 K (q := 129) (v := (0 : Int32)) d6_128 (by decide) rfl ?_
  refine g_istore X27 K (q := 131) (L' := #[.val (.ref a1), .val (.ref a2), .val (.int (2 : Int32)), .val (.int (4 : Int32)), .val (.int (0 : Int32)), .val (.int (0 : Int32))]) d6_129 rfl rfl ?_
  refine g_iload X27 K (q := 133) d6_131 rfl rfl ?_
  refine g_iloadN X27 K (q := 134) d6_133 rfl rfl ?_
  refine g_icN X27 K (q := 137) d6_134 (by decide) rfl ?_
  refine g_aloadN X27 K (q := 138) d6_137 rfl rfl rfl ?_
  have f42 := ((((((((F19.ext E20).other W21 (Or.inr (slot_ne (a0 := a0) (Or.inr (w77 H)) (Or.inr (w79 H)) (by decide) (t := (.array .int)) (t' := (.array .int)) (by decide) (by decide)))).ext E22).other W23 (Or.inr (slot_ne (a0 := a0) (Or.inr (w77 H)) (Or.inr (w83 H)) (by decide) (t := (.array .int)) (t' := (.array (.array .int))) (by decide) (by decide)))).ext E24).other W25 (Or.inr (slot_ne (a0 := a0) (Or.inr (w77 H)) (Or.inr (w85 H)) (by decide) (t := (.array .int)) (t' := (.array .int)) (by decide) (by decide)))).ext E26).other W27 (Or.inr (slot_ne (a0 := a0) (Or.inr (w77 H)) (Or.inr (w87 H)) (by decide) (t := (.array .int)) (t' := (.array (.object "java/util/BitSet"))) (by decide) (by decide))))
  refine g_getf X27 K (q := 141) (w76 H) Via.refl e27 f42 d6_138 rfl ?_
  intro T28 X28 e28
  refine g_iload X28 K (q := 143) d6_141 rfl rfl ?_
  refine g_iload X28 K (q := 145) d6_143 rfl rfl ?_
  refine g_aloadN X28 K (q := 146) d6_145 rfl rfl rfl ?_
  refine g_iload X28 K (q := 148) d6_146 rfl rfl ?_
  have f43 := ((((((((((f24.ext E18).other W19 (Or.inl ne_1)).ext E20).other W21 (Or.inl ne_1)).ext E22).other W23 (Or.inl ne_1)).ext E24).other W25 (Or.inl ne_1)).ext E26).other W27 (Or.inl ne_1))
  have f44 := ((((((((((f25.ext E18).other W19 ne_3).ext E20).other W21 ne_3).ext E22).other W23 ne_3).ext E24).other W25 ne_3).ext E26).other W27 ne_3)
  have f45 := ((((((((((f26.ext E18).wr W19).ext E20).wr W21).ext E22).wr W23).ext E24).wr W25).ext E26).wr W27)
  refine g_virtual X28 K (q := 151) (W := 3) (a := a2) (w71 H) (w72 H) (nf_self K (w74 H)) (w74 H) (w73 H) (w2 H) (w75 H) (by decide) (rm10_16 l H a2 a4 k2 h27 Ol27 f43 f44) e28 f45 rfl (argsL := [(.int (0 : Int32))]) (rest := [(.int (0 : Int32)), (.int (0 : Int32)), (.ref b18)]) (lenOf pd_5 rfl) rfl rfl (Nat.le_of_eq rfl) d6_148 (by decide) (by decide) (by decide) (by decide) rfl ?_
  rintro T29 v29 L29 X29 ⟨rfl, N29q, e29⟩
  have N29 := Fr.app N27 N29q
  show Go p e below _ T29 (mkF m 151 #[.val (.ref a1), .val (.ref a2), .val (.int (2 : Int32)), .val (.int (4 : Int32)), .val (.int (0 : Int32)), .val (.int (0 : Int32))] [(.int (2 : Int32)), (.int (0 : Int32)), (.int (0 : Int32)), (.ref b18)])
  refine g_iadd X29 K (q := 152) d6_151 (z := (2 : Int32)) (by decide) rfl ?_
  refine g_iload X29 K (q := 154) d6_152 rfl rfl ?_
  have f46 := ((((((((f30.ext E20).other W21 (Ne.symm ne5)).ext E22).other W23 (Ne.symm ne5)).ext E24).other W25 (Ne.symm ne5)).ext E26).other W27 (Ne.symm ne5))
  refine g_static X29 K (q := 157) (W := 0) (w88 H) (w29 H) (w30 H) (w31 H) (by decide) (rm4_19 l H b18 kA18 h27 Ol27 f46 ge18) e29 rfl (argsL := [(.ref b18), (.int (0 : Int32)), (.int (2 : Int32)), (.int (0 : Int32))]) (rest := []) (lenOf pd_2 rfl) rfl rfl (Nat.le_of_eq rfl) d6_154 (by decide) (by decide) (by decide) (by decide) rfl ?_
  rintro T30 v30 L30 X30 ⟨rfl, N30q, Kc30, g1⟩
  have N30 := Fr.app N29 N30q
  have Ol30 := Ol27.keep Kc30 (allS ge18 all0)
  have Kp30 := Kp27.trans Kc30 (allS (P := fun x => x ∈ _ ∨ _ ≤ x) (Or.inr sz18) all0)
  show Go p e below _ T30 (mkF m 157 #[.val (.ref a1), .val (.ref a2), .val (.int (2 : Int32)), .val (.int (4 : Int32)), .val (.int (0 : Int32)), .val (.int (0 : Int32))] [])
  refine g_iload X30 K (q := 159) d6_157 rfl rfl ?_
  refine g_aloadN X30 K (q := 160) d6_159 rfl rfl rfl ?_
  refine g_iload X30 K (q := 162) d6_160 rfl rfl ?_
  have ne9 : a2 ≠ b18 := (Nat.ne_of_lt (Nat.lt_of_lt_of_le F_12.lt sz18))
  have f47 := (f43.keep Kc30 (ninS ne9 nin0))
  have ne10 : a4 ≠ b18 := (Nat.ne_of_lt (Nat.lt_of_lt_of_le A_2.lt sz18))
  have f48 := (f44.keep Kc30 (ninS ne10 nin0))
  have f49 := (f45.keep Kc30)
  refine g_virtual X30 K (q := 165) (W := 1) (a := a2) (w71 H) (w72 H) (nf_self K (w74 H)) (w74 H) (w73 H) (w2 H) (w75 H) (by decide) (rm10_16 l H a2 a4 k2 T30.heap Ol30 f47 f48) rfl f49 rfl (argsL := [(.int (0 : Int32))]) (rest := [(.int (0 : Int32))]) (lenOf pd_5 rfl) rfl rfl (Nat.le_of_eq rfl) d6_162 (by decide) (by decide) (by decide) (by decide) rfl ?_
  rintro T31 v31 L31 X31 ⟨rfl, N31q, e31⟩
  have N31 := Fr.app N30 N31q
  show Go p e below _ T31 (mkF m 165 #[.val (.ref a1), .val (.ref a2), .val (.int (2 : Int32)), .val (.int (4 : Int32)), .val (.int (0 : Int32)), .val (.int (0 : Int32))] [(.int (2 : Int32)), (.int (0 : Int32))])
  refine g_iadd X31 K (q := 166) d6_165 (z := (2 : Int32)) (by decide) rfl ?_
  refine g_istore X31 K (q := 168) (L' := #[.val (.ref a1), .val (.ref a2), .val (.int (2 : Int32)), .val (.int (4 : Int32)), .val (.int (2 : Int32)), .val (.int (0 : Int32))]) d6_166 rfl rfl ?_
  refine g_iinc X31 K (q := 171) (z := (1 : Int32)) (L' := #[.val (.ref a1), .val (.ref a2), .val (.int (2 : Int32)), .val (.int (4 : Int32)), .val (.int (2 : Int32)), .val (.int (1 : Int32))]) d6_168 rfl (by decide) rfl rfl ?_
  refine g_goto X31 K (q := 131) d6_171 (by decide) (by decide) ?_
  refine g_iload X31 K (q := 133) d6_131 rfl rfl ?_
  refine g_iloadN X31 K (q := 134) d6_133 rfl rfl ?_
  refine g_icN X31 K (q := 137) d6_134 (by decide) rfl ?_
  refine g_aloadN X31 K (q := 138) d6_137 rfl rfl rfl ?_
  have f50 := (f42.keep Kc30 (ninS ne5 nin0))
  refine g_getf X31 K (q := 141) (w76 H) Via.refl e31 f50 d6_138 rfl ?_
  intro T32 X32 e32
  refine g_iload X32 K (q := 143) d6_141 rfl rfl ?_
  refine g_iload X32 K (q := 145) d6_143 rfl rfl ?_
  refine g_aloadN X32 K (q := 146) d6_145 rfl rfl rfl ?_
  refine g_iload X32 K (q := 148) d6_146 rfl rfl ?_
  refine g_virtual X32 K (q := 151) (W := 3) (a := a2) (w71 H) (w72 H) (nf_self K (w74 H)) (w74 H) (w73 H) (w2 H) (w75 H) (by decide) (rm10_17 l H a2 a4 k2 T30.heap Ol30 f47 f48) e32 f49 rfl (argsL := [(.int (1 : Int32))]) (rest := [(.int (2 : Int32)), (.int (2 : Int32)), (.ref b18)]) (lenOf pd_5 rfl) rfl rfl (Nat.le_of_eq rfl) d6_148 (by decide) (by decide) (by decide) (by decide) rfl ?_
  rintro T33 v33 L33 X33 ⟨rfl, N33q, e33⟩
  have N33 := Fr.app N31 N33q
  show Go p e below _ T33 (mkF m 151 #[.val (.ref a1), .val (.ref a2), .val (.int (2 : Int32)), .val (.int (4 : Int32)), .val (.int (2 : Int32)), .val (.int (1 : Int32))] [(.int (2 : Int32)), (.int (2 : Int32)), (.int (2 : Int32)), (.ref b18)])
  refine g_iadd X33 K (q := 152) d6_151 (z := (4 : Int32)) (by decide) rfl ?_
  refine g_iload X33 K (q := 154) d6_152 rfl rfl ?_
  refine g_static X33 K (q := 157) (W := 0) (w88 H) (w29 H) (w30 H) (w31 H) (by decide) (rm4_21 l H b18 kA18 T30.heap Ol30 g1 ge18) e33 rfl (argsL := [(.ref b18), (.int (2 : Int32)), (.int (4 : Int32)), (.int (1 : Int32))]) (rest := []) (lenOf pd_2 rfl) rfl rfl (Nat.le_of_eq rfl) d6_154 (by decide) (by decide) (by decide) (by decide) rfl ?_
  rintro T34 v34 L34 X34 ⟨rfl, N34q, Kc34, g2⟩
  have N34 := Fr.app N33 N34q
  have Ol34 := Ol30.keep Kc34 (allS ge18 all0)
  have Kp34 := Kp30.trans Kc34 (allS (P := fun x => x ∈ _ ∨ _ ≤ x) (Or.inr sz18) all0)
  show Go p e below _ T34 (mkF m 157 #[.val (.ref a1), .val (.ref a2), .val (.int (2 : Int32)), .val (.int (4 : Int32)), .val (.int (2 : Int32)), .val (.int (1 : Int32))] [])
  refine g_iload X34 K (q := 159) d6_157 rfl rfl ?_
  refine g_aloadN X34 K (q := 160) d6_159 rfl rfl rfl ?_
  refine g_iload X34 K (q := 162) d6_160 rfl rfl ?_
  have f51 := (f47.keep Kc34 (ninS ne9 nin0))
  have f52 := (f48.keep Kc34 (ninS ne10 nin0))
  have f53 := (f49.keep Kc34)
  refine g_virtual X34 K (q := 165) (W := 1) (a := a2) (w71 H) (w72 H) (nf_self K (w74 H)) (w74 H) (w73 H) (w2 H) (w75 H) (by decide) (rm10_17 l H a2 a4 k2 T34.heap Ol34 f51 f52) rfl f53 rfl (argsL := [(.int (1 : Int32))]) (rest := [(.int (2 : Int32))]) (lenOf pd_5 rfl) rfl rfl (Nat.le_of_eq rfl) d6_162 (by decide) (by decide) (by decide) (by decide) rfl ?_
  rintro T35 v35 L35 X35 ⟨rfl, N35q, e35⟩
  have N35 := Fr.app N34 N35q
  show Go p e below _ T35 (mkF m 165 #[.val (.ref a1), .val (.ref a2), .val (.int (2 : Int32)), .val (.int (4 : Int32)), .val (.int (2 : Int32)), .val (.int (1 : Int32))] [(.int (2 : Int32)), (.int (2 : Int32))])
  refine g_iadd X35 K (q := 166) d6_165 (z := (4 : Int32)) (by decide) rfl ?_
  refine g_istore X35 K (q := 168) (L' := #[.val (.ref a1), .val (.ref a2), .val (.int (2 : Int32)), .val (.int (4 : Int32)), .val (.int (4 : Int32)), .val (.int (1 : Int32))]) d6_166 rfl rfl ?_
  refine g_iinc X35 K (q := 171) (z := (2 : Int32)) (L' := #[.val (.ref a1), .val (.ref a2), .val (.int (2 : Int32)), .val (.int (4 : Int32)), .val (.int (4 : Int32)), .val (.int (2 : Int32))]) d6_168 rfl (by decide) rfl rfl ?_
  refine g_goto X35 K (q := 131) d6_171 (by decide) (by decide) ?_
  refine g_iload X35 K (q := 133) d6_131 rfl rfl ?_
  refine g_iloadN X35 K (q := 134) d6_133 rfl rfl ?_
  refine g_icY X35 K (q := 174) d6_134 (by decide) (by decide) (by decide) ?_
  refine g_ret X35 K d6_174 (by decide) (by decide) ?_
  have Kp : Keep h0 T35.heap [a1] := by rw [e35]; exact Kp34
  have f54 := (((f41.wr W27).keep Kc30).keep Kc34)
  have f55 := ((((((((((((((((((((F3.ext E4).other W5 (Or.inr (slot_ne (a0 := a0) (Or.inr (w43 H)) (Or.inr (w47 H)) (by decide) (t := (.array .int)) (t' := (.array (.object "java/util/BitSet"))) (by decide) (by decide)))).other W6 (Or.inr (slot_ne (a0 := a0) (Or.inr (w43 H)) (Or.inr (w49 H)) (by decide) (t := (.array .int)) (t' := (.object "ludarium/rules/BrutusSight")) (by decide) (by decide)))).other W8 (Or.inr (slot_ne (a0 := a0) (Or.inr (w43 H)) (Or.inr (w56 H)) (by decide) (t := (.array .int)) (t' := .int) (by decide) (by decide)))).ext E10).other W11 (Or.inr (slot_ne (a0 := a0) (Or.inr (w43 H)) (Or.inr (w63 H)) (by decide) (t := (.array .int)) (t' := (.array .int)) (by decide) (by decide)))).ext E13).other W14 (Or.inr (slot_ne (a0 := a0) (Or.inr (w43 H)) (Or.inr (w65 H)) (by decide) (t := (.array .int)) (t' := (.array (.object "java/util/BitSet"))) (by decide) (by decide)))).ext E18).other W19 (Or.inr (slot_ne (a0 := a0) (Or.inr (w43 H)) (Or.inr (w77 H)) (by decide) (t := (.array .int)) (t' := (.array .int)) (by decide) (by decide)))).ext E20).other W21 (Or.inr (slot_ne (a0 := a0) (Or.inr (w43 H)) (Or.inr (w79 H)) (by decide) (t := (.array .int)) (t' := (.array .int)) (by decide) (by decide)))).ext E22).other W23 (Or.inr (slot_ne (a0 := a0) (Or.inr (w43 H)) (Or.inr (w83 H)) (by decide) (t := (.array .int)) (t' := (.array (.array .int))) (by decide) (by decide)))).ext E24).other W25 (Or.inr (slot_ne (a0 := a0) (Or.inr (w43 H)) (Or.inr (w85 H)) (by decide) (t := (.array .int)) (t' := (.array .int)) (by decide) (by decide)))).ext E26).other W27 (Or.inr (slot_ne (a0 := a0) (Or.inr (w43 H)) (Or.inr (w87 H)) (by decide) (t := (.array .int)) (t' := (.array (.object "java/util/BitSet"))) (by decide) (by decide)))).keep Kc30 (ninS ne5 nin0)).keep Kc34 (ninS ne5 nin0))
  have f56 := ((((((((((((((((((F5.other W6 (Or.inr (slot_ne (a0 := a0) (Or.inr (w47 H)) (Or.inr (w49 H)) (by decide) (t := (.array (.object "java/util/BitSet"))) (t' := (.object "ludarium/rules/BrutusSight")) (by decide) (by decide)))).other W8 (Or.inr (slot_ne (a0 := a0) (Or.inr (w47 H)) (Or.inr (w56 H)) (by decide) (t := (.array (.object "java/util/BitSet"))) (t' := .int) (by decide) (by decide)))).ext E10).other W11 (Or.inr (slot_ne (a0 := a0) (Or.inr (w47 H)) (Or.inr (w63 H)) (by decide) (t := (.array (.object "java/util/BitSet"))) (t' := (.array .int)) (by decide) (by decide)))).ext E13).other W14 (Or.inr (slot_ne (a0 := a0) (Or.inr (w47 H)) (Or.inr (w65 H)) (by decide) (t := (.array (.object "java/util/BitSet"))) (t' := (.array (.object "java/util/BitSet"))) (by decide) (by decide)))).ext E18).other W19 (Or.inr (slot_ne (a0 := a0) (Or.inr (w47 H)) (Or.inr (w77 H)) (by decide) (t := (.array (.object "java/util/BitSet"))) (t' := (.array .int)) (by decide) (by decide)))).ext E20).other W21 (Or.inr (slot_ne (a0 := a0) (Or.inr (w47 H)) (Or.inr (w79 H)) (by decide) (t := (.array (.object "java/util/BitSet"))) (t' := (.array .int)) (by decide) (by decide)))).ext E22).other W23 (Or.inr (slot_ne (a0 := a0) (Or.inr (w47 H)) (Or.inr (w83 H)) (by decide) (t := (.array (.object "java/util/BitSet"))) (t' := (.array (.array .int))) (by decide) (by decide)))).ext E24).other W25 (Or.inr (slot_ne (a0 := a0) (Or.inr (w47 H)) (Or.inr (w85 H)) (by decide) (t := (.array (.object "java/util/BitSet"))) (t' := (.array .int)) (by decide) (by decide)))).ext E26).other W27 (Or.inr (slot_ne (a0 := a0) (Or.inr (w47 H)) (Or.inr (w87 H)) (by decide) (t := (.array (.object "java/util/BitSet"))) (t' := (.array (.object "java/util/BitSet"))) (by decide) (by decide)))).keep Kc30 (ninS ne5 nin0)).keep Kc34 (ninS ne5 nin0))
  have f57 := (((((((((((((((((F6.other W8 (Or.inr (slot_ne (a0 := a0) (Or.inr (w49 H)) (Or.inr (w56 H)) (by decide) (t := (.object "ludarium/rules/BrutusSight")) (t' := .int) (by decide) (by decide)))).ext E10).other W11 (Or.inr (slot_ne (a0 := a0) (Or.inr (w49 H)) (Or.inr (w63 H)) (by decide) (t := (.object "ludarium/rules/BrutusSight")) (t' := (.array .int)) (by decide) (by decide)))).ext E13).other W14 (Or.inr (slot_ne (a0 := a0) (Or.inr (w49 H)) (Or.inr (w65 H)) (by decide) (t := (.object "ludarium/rules/BrutusSight")) (t' := (.array (.object "java/util/BitSet"))) (by decide) (by decide)))).ext E18).other W19 (Or.inr (slot_ne (a0 := a0) (Or.inr (w49 H)) (Or.inr (w77 H)) (by decide) (t := (.object "ludarium/rules/BrutusSight")) (t' := (.array .int)) (by decide) (by decide)))).ext E20).other W21 (Or.inr (slot_ne (a0 := a0) (Or.inr (w49 H)) (Or.inr (w79 H)) (by decide) (t := (.object "ludarium/rules/BrutusSight")) (t' := (.array .int)) (by decide) (by decide)))).ext E22).other W23 (Or.inr (slot_ne (a0 := a0) (Or.inr (w49 H)) (Or.inr (w83 H)) (by decide) (t := (.object "ludarium/rules/BrutusSight")) (t' := (.array (.array .int))) (by decide) (by decide)))).ext E24).other W25 (Or.inr (slot_ne (a0 := a0) (Or.inr (w49 H)) (Or.inr (w85 H)) (by decide) (t := (.object "ludarium/rules/BrutusSight")) (t' := (.array .int)) (by decide) (by decide)))).ext E26).other W27 (Or.inr (slot_ne (a0 := a0) (Or.inr (w49 H)) (Or.inr (w87 H)) (by decide) (t := (.object "ludarium/rules/BrutusSight")) (t' := (.array (.object "java/util/BitSet"))) (by decide) (by decide)))).keep Kc30 (ninS ne5 nin0)).keep Kc34 (ninS ne5 nin0))
  have f58 := ((((((((((((((((F8.ext E10).other W11 (Or.inr (slot_ne (a0 := a0) (Or.inr (w56 H)) (Or.inr (w63 H)) (by decide) (t := .int) (t' := (.array .int)) (by decide) (by decide)))).ext E13).other W14 (Or.inr (slot_ne (a0 := a0) (Or.inr (w56 H)) (Or.inr (w65 H)) (by decide) (t := .int) (t' := (.array (.object "java/util/BitSet"))) (by decide) (by decide)))).ext E18).other W19 (Or.inr (slot_ne (a0 := a0) (Or.inr (w56 H)) (Or.inr (w77 H)) (by decide) (t := .int) (t' := (.array .int)) (by decide) (by decide)))).ext E20).other W21 (Or.inr (slot_ne (a0 := a0) (Or.inr (w56 H)) (Or.inr (w79 H)) (by decide) (t := .int) (t' := (.array .int)) (by decide) (by decide)))).ext E22).other W23 (Or.inr (slot_ne (a0 := a0) (Or.inr (w56 H)) (Or.inr (w83 H)) (by decide) (t := .int) (t' := (.array (.array .int))) (by decide) (by decide)))).ext E24).other W25 (Or.inr (slot_ne (a0 := a0) (Or.inr (w56 H)) (Or.inr (w85 H)) (by decide) (t := .int) (t' := (.array .int)) (by decide) (by decide)))).ext E26).other W27 (Or.inr (slot_ne (a0 := a0) (Or.inr (w56 H)) (Or.inr (w87 H)) (by decide) (t := .int) (t' := (.array (.object "java/util/BitSet"))) (by decide) (by decide)))).keep Kc30 (ninS ne5 nin0)).keep Kc34 (ninS ne5 nin0))
  have f59 := ((((((((((((((F11.ext E13).other W14 (Or.inr (slot_ne (a0 := a0) (Or.inr (w63 H)) (Or.inr (w65 H)) (by decide) (t := (.array .int)) (t' := (.array (.object "java/util/BitSet"))) (by decide) (by decide)))).ext E18).other W19 (Or.inr (slot_ne (a0 := a0) (Or.inr (w63 H)) (Or.inr (w77 H)) (by decide) (t := (.array .int)) (t' := (.array .int)) (by decide) (by decide)))).ext E20).other W21 (Or.inr (slot_ne (a0 := a0) (Or.inr (w63 H)) (Or.inr (w79 H)) (by decide) (t := (.array .int)) (t' := (.array .int)) (by decide) (by decide)))).ext E22).other W23 (Or.inr (slot_ne (a0 := a0) (Or.inr (w63 H)) (Or.inr (w83 H)) (by decide) (t := (.array .int)) (t' := (.array (.array .int))) (by decide) (by decide)))).ext E24).other W25 (Or.inr (slot_ne (a0 := a0) (Or.inr (w63 H)) (Or.inr (w85 H)) (by decide) (t := (.array .int)) (t' := (.array .int)) (by decide) (by decide)))).ext E26).other W27 (Or.inr (slot_ne (a0 := a0) (Or.inr (w63 H)) (Or.inr (w87 H)) (by decide) (t := (.array .int)) (t' := (.array (.object "java/util/BitSet"))) (by decide) (by decide)))).keep Kc30 (ninS ne5 nin0)).keep Kc34 (ninS ne5 nin0))
  have f60 := ((((((((((((F14.ext E18).other W19 (Or.inr (slot_ne (a0 := a0) (Or.inr (w65 H)) (Or.inr (w77 H)) (by decide) (t := (.array (.object "java/util/BitSet"))) (t' := (.array .int)) (by decide) (by decide)))).ext E20).other W21 (Or.inr (slot_ne (a0 := a0) (Or.inr (w65 H)) (Or.inr (w79 H)) (by decide) (t := (.array (.object "java/util/BitSet"))) (t' := (.array .int)) (by decide) (by decide)))).ext E22).other W23 (Or.inr (slot_ne (a0 := a0) (Or.inr (w65 H)) (Or.inr (w83 H)) (by decide) (t := (.array (.object "java/util/BitSet"))) (t' := (.array (.array .int))) (by decide) (by decide)))).ext E24).other W25 (Or.inr (slot_ne (a0 := a0) (Or.inr (w65 H)) (Or.inr (w85 H)) (by decide) (t := (.array (.object "java/util/BitSet"))) (t' := (.array .int)) (by decide) (by decide)))).ext E26).other W27 (Or.inr (slot_ne (a0 := a0) (Or.inr (w65 H)) (Or.inr (w87 H)) (by decide) (t := (.array (.object "java/util/BitSet"))) (t' := (.array (.object "java/util/BitSet"))) (by decide) (by decide)))).keep Kc30 (ninS ne5 nin0)).keep Kc34 (ninS ne5 nin0))
  have f61 := (f50.keep Kc34 (ninS ne5 nin0))
  have f62 := ((((((((F21.ext E22).other W23 (Or.inr (slot_ne (a0 := a0) (Or.inr (w79 H)) (Or.inr (w83 H)) (by decide) (t := (.array .int)) (t' := (.array (.array .int))) (by decide) (by decide)))).ext E24).other W25 (Or.inr (slot_ne (a0 := a0) (Or.inr (w79 H)) (Or.inr (w85 H)) (by decide) (t := (.array .int)) (t' := (.array .int)) (by decide) (by decide)))).ext E26).other W27 (Or.inr (slot_ne (a0 := a0) (Or.inr (w79 H)) (Or.inr (w87 H)) (by decide) (t := (.array .int)) (t' := (.array (.object "java/util/BitSet"))) (by decide) (by decide)))).keep Kc30 (ninS ne5 nin0)).keep Kc34 (ninS ne5 nin0))
  have f63 := ((((((F23.ext E24).other W25 (Or.inr (slot_ne (a0 := a0) (Or.inr (w83 H)) (Or.inr (w85 H)) (by decide) (t := (.array (.array .int))) (t' := (.array .int)) (by decide) (by decide)))).ext E26).other W27 (Or.inr (slot_ne (a0 := a0) (Or.inr (w83 H)) (Or.inr (w87 H)) (by decide) (t := (.array (.array .int))) (t' := (.array (.object "java/util/BitSet"))) (by decide) (by decide)))).keep Kc30 (ninS ne5 nin0)).keep Kc34 (ninS ne5 nin0))
  have f64 := ((((F25.ext E26).other W27 (Or.inr (slot_ne (a0 := a0) (Or.inr (w85 H)) (Or.inr (w87 H)) (by decide) (t := (.array .int)) (t' := (.array (.object "java/util/BitSet"))) (by decide) (by decide)))).keep Kc30 (ninS ne5 nin0)).keep Kc34 (ninS ne5 nin0))
  have f65 := ((F27.keep Kc30 (ninS ne5 nin0)).keep Kc34 (ninS ne5 nin0))
  have ne11 : b2 ≠ b18 := (Nat.ne_of_lt (Nat.lt_trans lk4 (Nat.lt_trans lk10 (Nat.lt_trans lk13 lk18))))
  have f66 := ((((((((((((((((((((f3.ext E4).other W5 (Ne.symm ne1)).other W6 (Ne.symm ne1)).other W8 (Ne.symm ne1)).ext E10).other W11 (Ne.symm ne1)).ext E13).other W14 (Ne.symm ne1)).ext E18).other W19 (Ne.symm ne1)).ext E20).other W21 (Ne.symm ne1)).ext E22).other W23 (Ne.symm ne1)).ext E24).other W25 (Ne.symm ne1)).ext E26).other W27 (Ne.symm ne1)).keep Kc30 (ninS ne11 nin0)).keep Kc34 (ninS ne11 nin0))
  have ne12 : b4 ≠ b18 := (Nat.ne_of_lt (Nat.lt_trans lk10 (Nat.lt_trans lk13 lk18)))
  have f67 := ((((((((((((((((f15.ext E10).other W11 (Ne.symm ne2)).ext E13).other W14 (Ne.symm ne2)).ext E18).other W19 (Ne.symm ne2)).ext E20).other W21 (Ne.symm ne2)).ext E22).other W23 (Ne.symm ne2)).ext E24).other W25 (Ne.symm ne2)).ext E26).other W27 (Ne.symm ne2)).keep Kc30 (ninS ne12 nin0)).keep Kc34 (ninS ne12 nin0))
  have ne13 : b10 ≠ b18 := (Nat.ne_of_lt (Nat.lt_trans lk13 lk18))
  have f68 := ((((((((((((((f21.ext E13).other W14 (Ne.symm ne3)).ext E18).other W19 (Ne.symm ne3)).ext E20).other W21 (Ne.symm ne3)).ext E22).other W23 (Ne.symm ne3)).ext E24).other W25 (Ne.symm ne3)).ext E26).other W27 (Ne.symm ne3)).keep Kc30 (ninS ne13 nin0)).keep Kc34 (ninS ne13 nin0))
  have ne14 : b13 ≠ b18 := (Nat.ne_of_lt lk18)
  have f69 := ((((((((((((f27.ext E18).other W19 (Ne.symm ne4)).ext E20).other W21 (Ne.symm ne4)).ext E22).other W23 (Ne.symm ne4)).ext E24).other W25 (Ne.symm ne4)).ext E26).other W27 (Ne.symm ne4)).keep Kc30 (ninS ne14 nin0)).keep Kc34 (ninS ne14 nin0))
  have ne15 : b18 ≠ b20 := (Nat.ne_of_lt lk20)
  have f70 := ((((((((f33.ext E22).other W23 (Ne.symm ne6)).ext E24).other W25 (Ne.symm ne6)).ext E26).other W27 (Ne.symm ne6)).keep Kc30 (ninS (Ne.symm ne15) nin0)).keep Kc34 (ninS (Ne.symm ne15) nin0))
  have ne16 : a1 ≠ b22 := (Nat.ne_of_lt (Nat.lt_of_lt_of_le E_1.lt sz22))
  have ne17 : b18 ≠ b22 := (Nat.ne_of_lt (Nat.lt_trans lk20 lk22))
  have f71 := (((((((A22.other W23 (Ne.symm ne16)).ext E24).other W25 (Ne.symm ne16)).ext E26).other W27 (Ne.symm ne16)).keep Kc30 (ninS (Ne.symm ne17) nin0)).keep Kc34 (ninS (Ne.symm ne17) nin0))
  have ne18 : a1 ≠ b22_0 := (Nat.ne_of_lt (Nat.lt_of_lt_of_le E_1.lt sz22_0))
  have ne19 : b18 ≠ b22_0 := (Nat.ne_of_lt (Nat.lt_trans lk20 (Nat.lt_trans lk22 lk22_0)))
  have f72 := (((((((A22_0.other W23 (Ne.symm ne18)).ext E24).other W25 (Ne.symm ne18)).ext E26).other W27 (Ne.symm ne18)).keep Kc30 (ninS (Ne.symm ne19) nin0)).keep Kc34 (ninS (Ne.symm ne19) nin0))
  have ne20 : b18 ≠ b22_1 := (Nat.ne_of_lt (Nat.lt_trans lk20 (Nat.lt_trans lk22 (Nat.lt_trans lk22_0 lk22_1))))
  have f73 := ((((((f36.ext E24).other W25 (Ne.symm ne7)).ext E26).other W27 (Ne.symm ne7)).keep Kc30 (ninS (Ne.symm ne20) nin0)).keep Kc34 (ninS (Ne.symm ne20) nin0))
  have ne21 : b18 ≠ b24 := (Nat.ne_of_lt (Nat.lt_trans lk20 (Nat.lt_trans lk22 (Nat.lt_trans lk22_0 (Nat.lt_trans lk22_1 lk24)))))
  have f74 := ((((f39.ext E26).other W27 (Ne.symm ne8)).keep Kc30 (ninS (Ne.symm ne21) nin0)).keep Kc34 (ninS (Ne.symm ne21) nin0))
  have ne22 : a1 ≠ b26 := (Nat.ne_of_lt (Nat.lt_of_lt_of_le E_1.lt sz26))
  have ne23 : b18 ≠ b26 := (Nat.ne_of_lt (Nat.lt_trans lk20 (Nat.lt_trans lk22 (Nat.lt_trans lk22_0 (Nat.lt_trans lk22_1 (Nat.lt_trans lk24 lk26))))))
  have f75 := (((A26.other W27 (Ne.symm ne22)).keep Kc30 (ninS (Ne.symm ne23) nin0)).keep Kc34 (ninS (Ne.symm ne23) nin0))
  exact ⟨b2, b4, b10, b13, b18, b20, b22, b22_0, b22_1, b24, b26, kA2, kA4, kA10, kA13, kA18, kA20, kA22, kI22, kI22, kA24, kA26, rfl, N35, Kp, sz2, lk4, lk10, lk13, lk18, lk20, lk22, lk22_0, lk22_1, lk24, lk26, (by rw [e35]; exact f54), (by rw [e35]; exact f55), (by rw [e35]; exact f56), (by rw [e35]; exact f57), (by rw [e35]; exact f58), (by rw [e35]; exact f59), (by rw [e35]; exact f60), (by rw [e35]; exact f61), (by rw [e35]; exact f62), (by rw [e35]; exact f63), (by rw [e35]; exact f64), (by rw [e35]; exact f65), (by rw [e35]; exact f66), (by rw [e35]; exact f67), O4, (by rw [e35]; exact f68), (by rw [e35]; exact f69), O13, (by rw [e35]; exact g2), (by rw [e35]; exact f70), (by rw [e35]; exact f71), (by rw [e35]; exact f72), (by rw [e35]; exact f73), (by rw [e35]; exact f74), (by rw [e35]; exact f75), O26⟩
set_option maxRecDepth 65536 in
set_option maxHeartbeats 40000000 in
theorem rm12_23 (l : Launch) {Z : State} {a0 : Array Value} (H : Hyp Z a0) (a1 : Addr) (p1 : Int32) (p2 : Int32) (p3 : Int32) (p4 : Int32) (p5 : Int32) (p6 : Int32) (p7 : Int32) (k1 : ClassId) (h0 : Heap) (Ol : Old Z Z.heap.size h0) (A_1 : Arv Z h0 a1 k1 .int (4 : Int32) [(.int p4), (.int p5), (.int p6), (.int p7)] (.int (0 : Int32))) (ok_1 : SlotOK (0 : Int32) p1 p2 p3 p4) :
    Mt l Z (⟨"ludarium/rules/BrutusWalkTakePinLaw", "slot", "([IIIII)Z"⟩ : MethodName) method_3_code 6 (some .boolean) [] ({ frames := 0, cells := 0, slots := 0, locals := 0 } : Room) #[(.ref a1), (.int (0 : Int32)), (.int p1), (.int p2), (.int p3)] h0 (fun v h L => (v = some (.int (1 : Int32)) ∧ Fr Z.heap.size L ∧ h = h0)) := by
  refine g_body (plainFor_of_name pn_ludarium_rules_BrutusWalkTakePinLaw) ?_
  intro p e s m below meth c T0 K X0 e0
  refine g_entry (ef_21 m a1 p1 p2 p3) ?_
  have N0 : Fr Z.heap.size [] := Fr.nil _
  have Ol0 := Ol
  have Kp0 : Keep h0 h0 [] := Keep.refl h0 _
  refine g_iloadN X0 K (q := 1) d12_0 rfl rfl ?_
  refine g_iloadN X0 K (q := 2) d12_1 rfl rfl ?_
  by_cases hc1 : (0 : Int32) < p1
  · refine g_icY X0 K (q := 21) d12_2 (tlt hc1).1 (by decide) (by decide) ?_
    refine g_iloadN X0 K (q := 22) d12_21 rfl rfl ?_
    refine g_iloadN X0 K (q := 23) d12_22 rfl rfl ?_
    refine g_iconst X0 K (q := 24) (v := (1 : Int32)) d12_23 (by decide) rfl ?_
    refine g_isub X0 K (q := 25) d12_24 rfl rfl ?_
    by_cases hc2 : (0 : Int32) = (p1 - (1 : Int32))
    · refine g_icN X0 K (q := 28) d12_25 (teq hc2).2 rfl ?_
      refine g_iconst X0 K (q := 29) (v := (1 : Int32)) d12_28 (by decide) rfl ?_
      refine g_nret X0 K (by simp) (z' := (1 : Int32)) (by decide) d12_29 (by decide) (by decide) ?_
      exact ⟨rfl, N0, e0⟩
    · refine g_icY X0 K (q := 30) d12_25 (feq hc2).2 (by decide) (by decide) ?_
      refine g_iloadN X0 K (q := 31) d12_30 rfl rfl ?_
      refine g_iloadN X0 K (q := 32) d12_31 rfl rfl ?_
      by_cases hc3 : (0 : Int32) = p2
      · refine g_icN X0 K (q := 35) d12_32 (teq hc3).2 rfl ?_
        refine g_iload X0 K (q := 37) d12_35 rfl rfl ?_
        refine g_iloadN X0 K (q := 38) d12_37 rfl rfl ?_
        refine g_iconst X0 K (q := 39) (v := (1 : Int32)) d12_38 (by decide) rfl ?_
        refine g_isub X0 K (q := 40) d12_39 rfl rfl ?_
        refine g_iadd X0 K (q := 41) d12_40 rfl rfl ?_
        refine g_goto X0 K (q := 48) d12_41 (by decide) (by decide) ?_
        refine g_istore X0 K (q := 50) (L' := #[.val (.ref a1), .val (.int (0 : Int32)), .val (.int p1), .val (.int p2), .val (.int p3), .val (.int (p3 + (p1 - (1 : Int32))))]) d12_48 rfl rfl ?_
        refine g_aloadN X0 K (q := 51) d12_50 rfl rfl rfl ?_
        refine g_iloadN X0 K (q := 52) d12_51 rfl rfl ?_
        refine g_iald X0 K (q := 53) (v := (.int p4)) e0 A_1 (by decide) rfl d12_52 rfl ?_
        refine g_iload X0 K (q := 55) d12_53 rfl rfl ?_
        refine g_icN X0 K (q := 58) d12_55 (teq (slot_at ok_1 hc1 hc2 hc3)).2 rfl ?_
        refine g_iconst X0 K (q := 59) (v := (1 : Int32)) d12_58 (by decide) rfl ?_
        refine g_goto X0 K (q := 63) d12_59 (by decide) (by decide) ?_
        refine g_nret X0 K (by simp) (z' := (1 : Int32)) (by decide) d12_63 (by decide) (by decide) ?_
        exact ⟨rfl, N0, e0⟩
      · refine g_icY X0 K (q := 44) d12_32 (feq hc3).2 (by decide) (by decide) ?_
        refine g_iload X0 K (q := 46) d12_44 rfl rfl ?_
        refine g_iloadN X0 K (q := 47) d12_46 rfl rfl ?_
        refine g_iadd X0 K (q := 48) d12_47 rfl rfl ?_
        refine g_istore X0 K (q := 50) (L' := #[.val (.ref a1), .val (.int (0 : Int32)), .val (.int p1), .val (.int p2), .val (.int p3), .val (.int (p3 + (0 : Int32)))]) d12_48 rfl rfl ?_
        refine g_aloadN X0 K (q := 51) d12_50 rfl rfl rfl ?_
        refine g_iloadN X0 K (q := 52) d12_51 rfl rfl ?_
        refine g_iald X0 K (q := 53) (v := (.int p4)) e0 A_1 (by decide) rfl d12_52 rfl ?_
        refine g_iload X0 K (q := 55) d12_53 rfl rfl ?_
        refine g_icN X0 K (q := 58) d12_55 (teq (slot_no ok_1 hc1 hc2 hc3)).2 rfl ?_
        refine g_iconst X0 K (q := 59) (v := (1 : Int32)) d12_58 (by decide) rfl ?_
        refine g_goto X0 K (q := 63) d12_59 (by decide) (by decide) ?_
        refine g_nret X0 K (by simp) (z' := (1 : Int32)) (by decide) d12_63 (by decide) (by decide) ?_
        exact ⟨rfl, N0, e0⟩
  · refine g_icN X0 K (q := 5) d12_2 (flt hc1).1 rfl ?_
    refine g_aloadN X0 K (q := 6) d12_5 rfl rfl rfl ?_
    refine g_iloadN X0 K (q := 7) d12_6 rfl rfl ?_
    refine g_iald X0 K (q := 8) (v := (.int p4)) e0 A_1 (by decide) rfl d12_7 rfl ?_
    refine g_iload X0 K (q := 10) d12_8 rfl rfl ?_
    refine g_iloadN X0 K (q := 11) d12_10 rfl rfl ?_
    refine g_iadd X0 K (q := 12) d12_11 rfl rfl ?_
    refine g_icN X0 K (q := 15) d12_12 (teq (ok_1.2 hc1)).2 rfl ?_
    refine g_iconst X0 K (q := 16) (v := (1 : Int32)) d12_15 (by decide) rfl ?_
    refine g_goto X0 K (q := 20) d12_16 (by decide) (by decide) ?_
    refine g_nret X0 K (by simp) (z' := (1 : Int32)) (by decide) d12_20 (by decide) (by decide) ?_
    exact ⟨rfl, N0, e0⟩
set_option maxRecDepth 65536 in
set_option maxHeartbeats 40000000 in
theorem rm12_24 (l : Launch) {Z : State} {a0 : Array Value} (H : Hyp Z a0) (a1 : Addr) (p1 : Int32) (p2 : Int32) (p3 : Int32) (p4 : Int32) (p5 : Int32) (p6 : Int32) (p7 : Int32) (k1 : ClassId) (h0 : Heap) (Ol : Old Z Z.heap.size h0) (A_1 : Arv Z h0 a1 k1 .int (4 : Int32) [(.int p4), (.int p5), (.int p6), (.int p7)] (.int (0 : Int32))) (ok_1 : SlotOK (1 : Int32) p1 p2 p3 p5) :
    Mt l Z (⟨"ludarium/rules/BrutusWalkTakePinLaw", "slot", "([IIIII)Z"⟩ : MethodName) method_3_code 6 (some .boolean) [] ({ frames := 0, cells := 0, slots := 0, locals := 0 } : Room) #[(.ref a1), (.int (1 : Int32)), (.int p1), (.int p2), (.int p3)] h0 (fun v h L => (v = some (.int (1 : Int32)) ∧ Fr Z.heap.size L ∧ h = h0)) := by
  refine g_body (plainFor_of_name pn_ludarium_rules_BrutusWalkTakePinLaw) ?_
  intro p e s m below meth c T0 K X0 e0
  refine g_entry (ef_22 m a1 p1 p2 p3) ?_
  have N0 : Fr Z.heap.size [] := Fr.nil _
  have Ol0 := Ol
  have Kp0 : Keep h0 h0 [] := Keep.refl h0 _
  refine g_iloadN X0 K (q := 1) d12_0 rfl rfl ?_
  refine g_iloadN X0 K (q := 2) d12_1 rfl rfl ?_
  by_cases hc1 : (1 : Int32) < p1
  · refine g_icY X0 K (q := 21) d12_2 (tlt hc1).1 (by decide) (by decide) ?_
    refine g_iloadN X0 K (q := 22) d12_21 rfl rfl ?_
    refine g_iloadN X0 K (q := 23) d12_22 rfl rfl ?_
    refine g_iconst X0 K (q := 24) (v := (1 : Int32)) d12_23 (by decide) rfl ?_
    refine g_isub X0 K (q := 25) d12_24 rfl rfl ?_
    by_cases hc2 : (1 : Int32) = (p1 - (1 : Int32))
    · refine g_icN X0 K (q := 28) d12_25 (teq hc2).2 rfl ?_
      refine g_iconst X0 K (q := 29) (v := (1 : Int32)) d12_28 (by decide) rfl ?_
      refine g_nret X0 K (by simp) (z' := (1 : Int32)) (by decide) d12_29 (by decide) (by decide) ?_
      exact ⟨rfl, N0, e0⟩
    · refine g_icY X0 K (q := 30) d12_25 (feq hc2).2 (by decide) (by decide) ?_
      refine g_iloadN X0 K (q := 31) d12_30 rfl rfl ?_
      refine g_iloadN X0 K (q := 32) d12_31 rfl rfl ?_
      by_cases hc3 : (1 : Int32) = p2
      · refine g_icN X0 K (q := 35) d12_32 (teq hc3).2 rfl ?_
        refine g_iload X0 K (q := 37) d12_35 rfl rfl ?_
        refine g_iloadN X0 K (q := 38) d12_37 rfl rfl ?_
        refine g_iconst X0 K (q := 39) (v := (1 : Int32)) d12_38 (by decide) rfl ?_
        refine g_isub X0 K (q := 40) d12_39 rfl rfl ?_
        refine g_iadd X0 K (q := 41) d12_40 rfl rfl ?_
        refine g_goto X0 K (q := 48) d12_41 (by decide) (by decide) ?_
        refine g_istore X0 K (q := 50) (L' := #[.val (.ref a1), .val (.int (1 : Int32)), .val (.int p1), .val (.int p2), .val (.int p3), .val (.int (p3 + (p1 - (1 : Int32))))]) d12_48 rfl rfl ?_
        refine g_aloadN X0 K (q := 51) d12_50 rfl rfl rfl ?_
        refine g_iloadN X0 K (q := 52) d12_51 rfl rfl ?_
        refine g_iald X0 K (q := 53) (v := (.int p5)) e0 A_1 (by decide) rfl d12_52 rfl ?_
        refine g_iload X0 K (q := 55) d12_53 rfl rfl ?_
        refine g_icN X0 K (q := 58) d12_55 (teq (slot_at ok_1 hc1 hc2 hc3)).2 rfl ?_
        refine g_iconst X0 K (q := 59) (v := (1 : Int32)) d12_58 (by decide) rfl ?_
        refine g_goto X0 K (q := 63) d12_59 (by decide) (by decide) ?_
        refine g_nret X0 K (by simp) (z' := (1 : Int32)) (by decide) d12_63 (by decide) (by decide) ?_
        exact ⟨rfl, N0, e0⟩
      · refine g_icY X0 K (q := 44) d12_32 (feq hc3).2 (by decide) (by decide) ?_
        refine g_iload X0 K (q := 46) d12_44 rfl rfl ?_
        refine g_iloadN X0 K (q := 47) d12_46 rfl rfl ?_
        refine g_iadd X0 K (q := 48) d12_47 rfl rfl ?_
        refine g_istore X0 K (q := 50) (L' := #[.val (.ref a1), .val (.int (1 : Int32)), .val (.int p1), .val (.int p2), .val (.int p3), .val (.int (p3 + (1 : Int32)))]) d12_48 rfl rfl ?_
        refine g_aloadN X0 K (q := 51) d12_50 rfl rfl rfl ?_
        refine g_iloadN X0 K (q := 52) d12_51 rfl rfl ?_
        refine g_iald X0 K (q := 53) (v := (.int p5)) e0 A_1 (by decide) rfl d12_52 rfl ?_
        refine g_iload X0 K (q := 55) d12_53 rfl rfl ?_
        refine g_icN X0 K (q := 58) d12_55 (teq (slot_no ok_1 hc1 hc2 hc3)).2 rfl ?_
        refine g_iconst X0 K (q := 59) (v := (1 : Int32)) d12_58 (by decide) rfl ?_
        refine g_goto X0 K (q := 63) d12_59 (by decide) (by decide) ?_
        refine g_nret X0 K (by simp) (z' := (1 : Int32)) (by decide) d12_63 (by decide) (by decide) ?_
        exact ⟨rfl, N0, e0⟩
  · refine g_icN X0 K (q := 5) d12_2 (flt hc1).1 rfl ?_
    refine g_aloadN X0 K (q := 6) d12_5 rfl rfl rfl ?_
    refine g_iloadN X0 K (q := 7) d12_6 rfl rfl ?_
    refine g_iald X0 K (q := 8) (v := (.int p5)) e0 A_1 (by decide) rfl d12_7 rfl ?_
    refine g_iload X0 K (q := 10) d12_8 rfl rfl ?_
    refine g_iloadN X0 K (q := 11) d12_10 rfl rfl ?_
    refine g_iadd X0 K (q := 12) d12_11 rfl rfl ?_
    refine g_icN X0 K (q := 15) d12_12 (teq (ok_1.2 hc1)).2 rfl ?_
    refine g_iconst X0 K (q := 16) (v := (1 : Int32)) d12_15 (by decide) rfl ?_
    refine g_goto X0 K (q := 20) d12_16 (by decide) (by decide) ?_
    refine g_nret X0 K (by simp) (z' := (1 : Int32)) (by decide) d12_20 (by decide) (by decide) ?_
    exact ⟨rfl, N0, e0⟩
set_option maxRecDepth 65536 in
set_option maxHeartbeats 40000000 in
theorem rm12_25 (l : Launch) {Z : State} {a0 : Array Value} (H : Hyp Z a0) (a1 : Addr) (p1 : Int32) (p2 : Int32) (p3 : Int32) (p4 : Int32) (p5 : Int32) (p6 : Int32) (p7 : Int32) (k1 : ClassId) (h0 : Heap) (Ol : Old Z Z.heap.size h0) (A_1 : Arv Z h0 a1 k1 .int (4 : Int32) [(.int p4), (.int p5), (.int p6), (.int p7)] (.int (0 : Int32))) (ok_1 : SlotOK (2 : Int32) p1 p2 p3 p6) :
    Mt l Z (⟨"ludarium/rules/BrutusWalkTakePinLaw", "slot", "([IIIII)Z"⟩ : MethodName) method_3_code 6 (some .boolean) [] ({ frames := 0, cells := 0, slots := 0, locals := 0 } : Room) #[(.ref a1), (.int (2 : Int32)), (.int p1), (.int p2), (.int p3)] h0 (fun v h L => (v = some (.int (1 : Int32)) ∧ Fr Z.heap.size L ∧ h = h0)) := by
  refine g_body (plainFor_of_name pn_ludarium_rules_BrutusWalkTakePinLaw) ?_
  intro p e s m below meth c T0 K X0 e0
  refine g_entry (ef_23 m a1 p1 p2 p3) ?_
  have N0 : Fr Z.heap.size [] := Fr.nil _
  have Ol0 := Ol
  have Kp0 : Keep h0 h0 [] := Keep.refl h0 _
  refine g_iloadN X0 K (q := 1) d12_0 rfl rfl ?_
  refine g_iloadN X0 K (q := 2) d12_1 rfl rfl ?_
  by_cases hc1 : (2 : Int32) < p1
  · refine g_icY X0 K (q := 21) d12_2 (tlt hc1).1 (by decide) (by decide) ?_
    refine g_iloadN X0 K (q := 22) d12_21 rfl rfl ?_
    refine g_iloadN X0 K (q := 23) d12_22 rfl rfl ?_
    refine g_iconst X0 K (q := 24) (v := (1 : Int32)) d12_23 (by decide) rfl ?_
    refine g_isub X0 K (q := 25) d12_24 rfl rfl ?_
    by_cases hc2 : (2 : Int32) = (p1 - (1 : Int32))
    · refine g_icN X0 K (q := 28) d12_25 (teq hc2).2 rfl ?_
      refine g_iconst X0 K (q := 29) (v := (1 : Int32)) d12_28 (by decide) rfl ?_
      refine g_nret X0 K (by simp) (z' := (1 : Int32)) (by decide) d12_29 (by decide) (by decide) ?_
      exact ⟨rfl, N0, e0⟩
    · refine g_icY X0 K (q := 30) d12_25 (feq hc2).2 (by decide) (by decide) ?_
      refine g_iloadN X0 K (q := 31) d12_30 rfl rfl ?_
      refine g_iloadN X0 K (q := 32) d12_31 rfl rfl ?_
      by_cases hc3 : (2 : Int32) = p2
      · refine g_icN X0 K (q := 35) d12_32 (teq hc3).2 rfl ?_
        refine g_iload X0 K (q := 37) d12_35 rfl rfl ?_
        refine g_iloadN X0 K (q := 38) d12_37 rfl rfl ?_
        refine g_iconst X0 K (q := 39) (v := (1 : Int32)) d12_38 (by decide) rfl ?_
        refine g_isub X0 K (q := 40) d12_39 rfl rfl ?_
        refine g_iadd X0 K (q := 41) d12_40 rfl rfl ?_
        refine g_goto X0 K (q := 48) d12_41 (by decide) (by decide) ?_
        refine g_istore X0 K (q := 50) (L' := #[.val (.ref a1), .val (.int (2 : Int32)), .val (.int p1), .val (.int p2), .val (.int p3), .val (.int (p3 + (p1 - (1 : Int32))))]) d12_48 rfl rfl ?_
        refine g_aloadN X0 K (q := 51) d12_50 rfl rfl rfl ?_
        refine g_iloadN X0 K (q := 52) d12_51 rfl rfl ?_
        refine g_iald X0 K (q := 53) (v := (.int p6)) e0 A_1 (by decide) rfl d12_52 rfl ?_
        refine g_iload X0 K (q := 55) d12_53 rfl rfl ?_
        refine g_icN X0 K (q := 58) d12_55 (teq (slot_at ok_1 hc1 hc2 hc3)).2 rfl ?_
        refine g_iconst X0 K (q := 59) (v := (1 : Int32)) d12_58 (by decide) rfl ?_
        refine g_goto X0 K (q := 63) d12_59 (by decide) (by decide) ?_
        refine g_nret X0 K (by simp) (z' := (1 : Int32)) (by decide) d12_63 (by decide) (by decide) ?_
        exact ⟨rfl, N0, e0⟩
      · refine g_icY X0 K (q := 44) d12_32 (feq hc3).2 (by decide) (by decide) ?_
        refine g_iload X0 K (q := 46) d12_44 rfl rfl ?_
        refine g_iloadN X0 K (q := 47) d12_46 rfl rfl ?_
        refine g_iadd X0 K (q := 48) d12_47 rfl rfl ?_
        refine g_istore X0 K (q := 50) (L' := #[.val (.ref a1), .val (.int (2 : Int32)), .val (.int p1), .val (.int p2), .val (.int p3), .val (.int (p3 + (2 : Int32)))]) d12_48 rfl rfl ?_
        refine g_aloadN X0 K (q := 51) d12_50 rfl rfl rfl ?_
        refine g_iloadN X0 K (q := 52) d12_51 rfl rfl ?_
        refine g_iald X0 K (q := 53) (v := (.int p6)) e0 A_1 (by decide) rfl d12_52 rfl ?_
        refine g_iload X0 K (q := 55) d12_53 rfl rfl ?_
        refine g_icN X0 K (q := 58) d12_55 (teq (slot_no ok_1 hc1 hc2 hc3)).2 rfl ?_
        refine g_iconst X0 K (q := 59) (v := (1 : Int32)) d12_58 (by decide) rfl ?_
        refine g_goto X0 K (q := 63) d12_59 (by decide) (by decide) ?_
        refine g_nret X0 K (by simp) (z' := (1 : Int32)) (by decide) d12_63 (by decide) (by decide) ?_
        exact ⟨rfl, N0, e0⟩
  · refine g_icN X0 K (q := 5) d12_2 (flt hc1).1 rfl ?_
    refine g_aloadN X0 K (q := 6) d12_5 rfl rfl rfl ?_
    refine g_iloadN X0 K (q := 7) d12_6 rfl rfl ?_
    refine g_iald X0 K (q := 8) (v := (.int p6)) e0 A_1 (by decide) rfl d12_7 rfl ?_
    refine g_iload X0 K (q := 10) d12_8 rfl rfl ?_
    refine g_iloadN X0 K (q := 11) d12_10 rfl rfl ?_
    refine g_iadd X0 K (q := 12) d12_11 rfl rfl ?_
    refine g_icN X0 K (q := 15) d12_12 (teq (ok_1.2 hc1)).2 rfl ?_
    refine g_iconst X0 K (q := 16) (v := (1 : Int32)) d12_15 (by decide) rfl ?_
    refine g_goto X0 K (q := 20) d12_16 (by decide) (by decide) ?_
    refine g_nret X0 K (by simp) (z' := (1 : Int32)) (by decide) d12_20 (by decide) (by decide) ?_
    exact ⟨rfl, N0, e0⟩
set_option maxRecDepth 65536 in
set_option maxHeartbeats 40000000 in
theorem rm12_26 (l : Launch) {Z : State} {a0 : Array Value} (H : Hyp Z a0) (a1 : Addr) (p1 : Int32) (p2 : Int32) (p3 : Int32) (p4 : Int32) (p5 : Int32) (p6 : Int32) (p7 : Int32) (k1 : ClassId) (h0 : Heap) (Ol : Old Z Z.heap.size h0) (A_1 : Arv Z h0 a1 k1 .int (4 : Int32) [(.int p4), (.int p5), (.int p6), (.int p7)] (.int (0 : Int32))) (ok_1 : SlotOK (3 : Int32) p1 p2 p3 p7) :
    Mt l Z (⟨"ludarium/rules/BrutusWalkTakePinLaw", "slot", "([IIIII)Z"⟩ : MethodName) method_3_code 6 (some .boolean) [] ({ frames := 0, cells := 0, slots := 0, locals := 0 } : Room) #[(.ref a1), (.int (3 : Int32)), (.int p1), (.int p2), (.int p3)] h0 (fun v h L => (v = some (.int (1 : Int32)) ∧ Fr Z.heap.size L ∧ h = h0)) := by
  refine g_body (plainFor_of_name pn_ludarium_rules_BrutusWalkTakePinLaw) ?_
  intro p e s m below meth c T0 K X0 e0
  refine g_entry (ef_24 m a1 p1 p2 p3) ?_
  have N0 : Fr Z.heap.size [] := Fr.nil _
  have Ol0 := Ol
  have Kp0 : Keep h0 h0 [] := Keep.refl h0 _
  refine g_iloadN X0 K (q := 1) d12_0 rfl rfl ?_
  refine g_iloadN X0 K (q := 2) d12_1 rfl rfl ?_
  by_cases hc1 : (3 : Int32) < p1
  · refine g_icY X0 K (q := 21) d12_2 (tlt hc1).1 (by decide) (by decide) ?_
    refine g_iloadN X0 K (q := 22) d12_21 rfl rfl ?_
    refine g_iloadN X0 K (q := 23) d12_22 rfl rfl ?_
    refine g_iconst X0 K (q := 24) (v := (1 : Int32)) d12_23 (by decide) rfl ?_
    refine g_isub X0 K (q := 25) d12_24 rfl rfl ?_
    by_cases hc2 : (3 : Int32) = (p1 - (1 : Int32))
    · refine g_icN X0 K (q := 28) d12_25 (teq hc2).2 rfl ?_
      refine g_iconst X0 K (q := 29) (v := (1 : Int32)) d12_28 (by decide) rfl ?_
      refine g_nret X0 K (by simp) (z' := (1 : Int32)) (by decide) d12_29 (by decide) (by decide) ?_
      exact ⟨rfl, N0, e0⟩
    · refine g_icY X0 K (q := 30) d12_25 (feq hc2).2 (by decide) (by decide) ?_
      refine g_iloadN X0 K (q := 31) d12_30 rfl rfl ?_
      refine g_iloadN X0 K (q := 32) d12_31 rfl rfl ?_
      by_cases hc3 : (3 : Int32) = p2
      · refine g_icN X0 K (q := 35) d12_32 (teq hc3).2 rfl ?_
        refine g_iload X0 K (q := 37) d12_35 rfl rfl ?_
        refine g_iloadN X0 K (q := 38) d12_37 rfl rfl ?_
        refine g_iconst X0 K (q := 39) (v := (1 : Int32)) d12_38 (by decide) rfl ?_
        refine g_isub X0 K (q := 40) d12_39 rfl rfl ?_
        refine g_iadd X0 K (q := 41) d12_40 rfl rfl ?_
        refine g_goto X0 K (q := 48) d12_41 (by decide) (by decide) ?_
        refine g_istore X0 K (q := 50) (L' := #[.val (.ref a1), .val (.int (3 : Int32)), .val (.int p1), .val (.int p2), .val (.int p3), .val (.int (p3 + (p1 - (1 : Int32))))]) d12_48 rfl rfl ?_
        refine g_aloadN X0 K (q := 51) d12_50 rfl rfl rfl ?_
        refine g_iloadN X0 K (q := 52) d12_51 rfl rfl ?_
        refine g_iald X0 K (q := 53) (v := (.int p7)) e0 A_1 (by decide) rfl d12_52 rfl ?_
        refine g_iload X0 K (q := 55) d12_53 rfl rfl ?_
        refine g_icN X0 K (q := 58) d12_55 (teq (slot_at ok_1 hc1 hc2 hc3)).2 rfl ?_
        refine g_iconst X0 K (q := 59) (v := (1 : Int32)) d12_58 (by decide) rfl ?_
        refine g_goto X0 K (q := 63) d12_59 (by decide) (by decide) ?_
        refine g_nret X0 K (by simp) (z' := (1 : Int32)) (by decide) d12_63 (by decide) (by decide) ?_
        exact ⟨rfl, N0, e0⟩
      · refine g_icY X0 K (q := 44) d12_32 (feq hc3).2 (by decide) (by decide) ?_
        refine g_iload X0 K (q := 46) d12_44 rfl rfl ?_
        refine g_iloadN X0 K (q := 47) d12_46 rfl rfl ?_
        refine g_iadd X0 K (q := 48) d12_47 rfl rfl ?_
        refine g_istore X0 K (q := 50) (L' := #[.val (.ref a1), .val (.int (3 : Int32)), .val (.int p1), .val (.int p2), .val (.int p3), .val (.int (p3 + (3 : Int32)))]) d12_48 rfl rfl ?_
        refine g_aloadN X0 K (q := 51) d12_50 rfl rfl rfl ?_
        refine g_iloadN X0 K (q := 52) d12_51 rfl rfl ?_
        refine g_iald X0 K (q := 53) (v := (.int p7)) e0 A_1 (by decide) rfl d12_52 rfl ?_
        refine g_iload X0 K (q := 55) d12_53 rfl rfl ?_
        refine g_icN X0 K (q := 58) d12_55 (teq (slot_no ok_1 hc1 hc2 hc3)).2 rfl ?_
        refine g_iconst X0 K (q := 59) (v := (1 : Int32)) d12_58 (by decide) rfl ?_
        refine g_goto X0 K (q := 63) d12_59 (by decide) (by decide) ?_
        refine g_nret X0 K (by simp) (z' := (1 : Int32)) (by decide) d12_63 (by decide) (by decide) ?_
        exact ⟨rfl, N0, e0⟩
  · refine g_icN X0 K (q := 5) d12_2 (flt hc1).1 rfl ?_
    refine g_aloadN X0 K (q := 6) d12_5 rfl rfl rfl ?_
    refine g_iloadN X0 K (q := 7) d12_6 rfl rfl ?_
    refine g_iald X0 K (q := 8) (v := (.int p7)) e0 A_1 (by decide) rfl d12_7 rfl ?_
    refine g_iload X0 K (q := 10) d12_8 rfl rfl ?_
    refine g_iloadN X0 K (q := 11) d12_10 rfl rfl ?_
    refine g_iadd X0 K (q := 12) d12_11 rfl rfl ?_
    refine g_icN X0 K (q := 15) d12_12 (teq (ok_1.2 hc1)).2 rfl ?_
    refine g_iconst X0 K (q := 16) (v := (1 : Int32)) d12_15 (by decide) rfl ?_
    refine g_goto X0 K (q := 20) d12_16 (by decide) (by decide) ?_
    refine g_nret X0 K (by simp) (z' := (1 : Int32)) (by decide) d12_20 (by decide) (by decide) ?_
    exact ⟨rfl, N0, e0⟩
set_option maxRecDepth 65536 in
set_option maxHeartbeats 40000000 in
theorem rm11_27 (l : Launch) {Z : State} {a0 : Array Value} (H : Hyp Z a0) (a1 : Addr) (p1 : Int32) (a2 : Addr) (a3 : Addr) (a4 : Addr) (a5 : Addr) (k1 : ClassId) (p2 : Int32) (p3 : Int32) (p4 : Int32) (p5 : Int32) (k2 : ClassId) (k3 : ClassId) (a6 : Addr) (k4 : ClassId) (h0 : Heap) (Ol : Old Z Z.heap.size h0) (F_1 : Fld Z h0 a1 "ludarium/rules/BrutusWalk" "moved" "[I" (.ref a2)) (F_2 : Fld Z h0 a1 "ludarium/rules/BrutusWalk" "held" "[[I" (.ref a3)) (A_1 : Arv Z h0 a3 k1 (.array .int) (2 : Int32) [(.ref a4), (.ref a5)] .null) (A_2 : Arv Z h0 a4 k2 .int (4 : Int32) [(.int p2), (.int p3), (.int p4), (.int p5)] (.int (0 : Int32))) (A_3 : Arv Z h0 a2 k3 .int (3 : Int32) [(.int (0 : Int32)), (.int (0 : Int32)), (.int (0 : Int32))] (.int (0 : Int32))) (hb_1 : ¬ p1 < 0 ∧ p1 < (3 : Int32)) (ge_1 : Z.heap.size ≤ a2) (F_3 : Fld Z h0 a1 "ludarium/rules/BrutusWalk" "heldCount" "[I" (.ref a6)) (ne_1 : a1 ≠ a2) (A_4 : Arv Z h0 a6 k4 .int (2 : Int32) [(.int (1 : Int32)), (.int (4 : Int32))] (.int (0 : Int32))) (ne_2 : a6 ≠ a2) (ge_2 : Z.heap.size ≤ a6) (ne_3 : a1 ≠ a6) (ne_4 : a3 ≠ a2) (ne_5 : a3 ≠ a6) (ne_6 : a4 ≠ a2) (ne_7 : a4 ≠ a6) (ge_3 : Z.heap.size ≤ a4) (ne_8 : a2 ≠ a6) (ne_9 : a2 ≠ a4) (ne_10 : a6 ≠ a4) :
    Mt l Z (⟨"ludarium/rules/BrutusWalk", "take", "(III)V"⟩ : MethodName) prog_53_method_10_code 4 none [] ({ frames := 0, cells := 0, slots := 0, locals := 0 } : Room) #[(.ref a1), (.int p1), (.int (0 : Int32)), (.int (0 : Int32))] h0 (fun v h L => (v = none ∧ Fr Z.heap.size L ∧ Keep h0 h [a2, a6, a4] ∧ Arv Z h a2 k3 .int (3 : Int32) ([(.int (0 : Int32)), (.int (0 : Int32)), (.int (0 : Int32))].set p1.toNatClampNeg (.int p2)) (.int (0 : Int32)) ∧ Arv Z h a6 k4 .int (2 : Int32) [(.int (0 : Int32)), (.int (4 : Int32))] (.int (0 : Int32)) ∧ Arv Z h a4 k2 .int (4 : Int32) [(.int p2), (.int p3), (.int p4), (.int p5)] (.int (0 : Int32)))) := by
  refine g_body (plainFor_of_name pn_ludarium_rules_BrutusWalk) ?_
  intro p e s m below meth c T0 K X0 e0
  refine g_entry (ef_25 m a1 p1) ?_
  have N0 : Fr Z.heap.size [] := Fr.nil _
  have Ol0 := Ol
  have Kp0 : Keep h0 h0 [a2, a6, a4] := Keep.refl h0 _
  refine g_aloadN X0 K (q := 1) d11_0 rfl rfl rfl ?_
  refine g_getf X0 K (q := 4) (w62 H) Via.refl e0 F_1 d11_1 rfl ?_
  intro T1 X1 e1
  refine g_iloadN X1 K (q := 5) d11_4 rfl rfl ?_
  refine g_aloadN X1 K (q := 6) d11_5 rfl rfl rfl ?_
  refine g_getf X1 K (q := 9) (w82 H) Via.refl e1 F_2 d11_6 rfl ?_
  intro T2 X2 e2
  refine g_iloadN X2 K (q := 10) d11_9 rfl rfl ?_
  refine g_aald X2 K (q := 11) (v := (.ref a4)) e2 A_1 rfl (by decide) rfl d11_10 rfl ?_
  refine g_iloadN X2 K (q := 12) d11_11 rfl rfl ?_
  refine g_iald X2 K (q := 13) (v := (.int p2)) e2 A_2 (by decide) rfl d11_12 rfl ?_
  refine g_iast X2 K (q := 14) (vs' := ([(.int (0 : Int32)), (.int (0 : Int32)), (.int (0 : Int32))].set p1.toNatClampNeg (.int p2))) e2 A_3 hb_1 (own_idx hb_1 rfl) rfl d11_13 rfl ?_
  intro T3 h3 X3 e3 W3 F3
  have N3 := Fr.snoc X3 N0 ge_1
  have Ol3 := Ol0.wr W3 ge_1
  have Kp3 := Kp0.wr W3 (Or.inl (List.mem_of_getElem? (i := 0) rfl))
  refine g_aloadN X3 K (q := 15) d11_14 rfl rfl rfl ?_
  have f1 := (F_3.other W3 (Or.inl ne_1))
  refine g_getf X3 K (q := 18) (w84 H) Via.refl e3 f1 d11_15 rfl ?_
  intro T4 X4 e4
  refine g_iloadN X4 K (q := 19) d11_18 rfl rfl ?_
  refine g_dup2 X4 K (q := 20) d11_19 rfl rfl rfl ?_
  have f2 := (A_4.other W3 ne_2)
  refine g_iald X4 K (q := 21) (v := (.int (1 : Int32))) e4 f2 (by decide) rfl d11_20 rfl ?_
  refine g_iconst X4 K (q := 22) (v := (1 : Int32)) d11_21 (by decide) rfl ?_
  refine g_isub X4 K (q := 23) d11_22 (z := (0 : Int32)) (by decide) rfl ?_
  refine g_iast X4 K (q := 24) (vs' := [(.int (0 : Int32)), (.int (4 : Int32))]) e4 f2 (by decide) (Nat.le_of_ble_eq_true rfl) rfl d11_23 rfl ?_
  intro T5 h5 X5 e5 W5 F5
  have N5 := Fr.snoc X5 N3 ge_2
  have Ol5 := Ol3.wr W5 ge_2
  have Kp5 := Kp3.wr W5 (Or.inl (List.mem_of_getElem? (i := 1) rfl))
  refine g_aloadN X5 K (q := 25) d11_24 rfl rfl rfl ?_
  have f3 := ((F_2.other W3 (Or.inl ne_1)).other W5 (Or.inl ne_3))
  refine g_getf X5 K (q := 28) (w82 H) Via.refl e5 f3 d11_25 rfl ?_
  intro T6 X6 e6
  refine g_iloadN X6 K (q := 29) d11_28 rfl rfl ?_
  have f4 := ((A_1.other W3 ne_4).other W5 ne_5)
  refine g_aald X6 K (q := 30) (v := (.ref a4)) e6 f4 rfl (by decide) rfl d11_29 rfl ?_
  refine g_iloadN X6 K (q := 31) d11_30 rfl rfl ?_
  refine g_aloadN X6 K (q := 32) d11_31 rfl rfl rfl ?_
  refine g_getf X6 K (q := 35) (w82 H) Via.refl e6 f3 d11_32 rfl ?_
  intro T7 X7 e7
  refine g_iloadN X7 K (q := 36) d11_35 rfl rfl ?_
  refine g_aald X7 K (q := 37) (v := (.ref a4)) e7 f4 rfl (by decide) rfl d11_36 rfl ?_
  refine g_aloadN X7 K (q := 38) d11_37 rfl rfl rfl ?_
  have f5 := (f1.other W5 (Or.inl ne_3))
  refine g_getf X7 K (q := 41) (w84 H) Via.refl e7 f5 d11_38 rfl ?_
  intro T8 X8 e8
  refine g_iloadN X8 K (q := 42) d11_41 rfl rfl ?_
  refine g_iald X8 K (q := 43) (v := (.int (0 : Int32))) e8 F5 (by decide) rfl d11_42 rfl ?_
  have f6 := ((A_2.other W3 ne_6).other W5 ne_7)
  refine g_iald X8 K (q := 44) (v := (.int p2)) e8 f6 (by decide) rfl d11_43 rfl ?_
  refine g_iast X8 K (q := 45) (vs' := [(.int p2), (.int p3), (.int p4), (.int p5)]) e8 f6 (by decide) (Nat.le_of_ble_eq_true rfl) rfl d11_44 rfl ?_
  intro T9 h9 X9 e9 W9 F9
  have N9 := Fr.snoc X9 N5 ge_3
  have Ol9 := Ol5.wr W9 ge_3
  have Kp9 := Kp5.wr W9 (Or.inl (List.mem_of_getElem? (i := 2) rfl))
  refine g_ret X9 K d11_45 (by decide) (by decide) ?_
  have Kp : Keep h0 T9.heap [a2, a6, a4] := by rw [e9]; exact Kp9
  have f7 := ((F3.other W5 ne_8).other W9 ne_9)
  have f8 := (F5.other W9 ne_10)
  exact ⟨rfl, N9, Kp, (by rw [e9]; exact f7), (by rw [e9]; exact f8), (by rw [e9]; exact F9)⟩
set_option maxRecDepth 65536 in
set_option maxHeartbeats 40000000 in
theorem rm11_28 (l : Launch) {Z : State} {a0 : Array Value} (H : Hyp Z a0) (a1 : Addr) (p1 : Int32) (a2 : Addr) (a3 : Addr) (a4 : Addr) (a5 : Addr) (k1 : ClassId) (p2 : Int32) (p3 : Int32) (p4 : Int32) (p5 : Int32) (k2 : ClassId) (k3 : ClassId) (a6 : Addr) (k4 : ClassId) (h0 : Heap) (Ol : Old Z Z.heap.size h0) (F_1 : Fld Z h0 a1 "ludarium/rules/BrutusWalk" "moved" "[I" (.ref a2)) (F_2 : Fld Z h0 a1 "ludarium/rules/BrutusWalk" "held" "[[I" (.ref a3)) (A_1 : Arv Z h0 a3 k1 (.array .int) (2 : Int32) [(.ref a4), (.ref a5)] .null) (A_2 : Arv Z h0 a4 k2 .int (4 : Int32) [(.int p2), (.int p3), (.int p4), (.int p5)] (.int (0 : Int32))) (A_3 : Arv Z h0 a2 k3 .int (3 : Int32) [(.int (0 : Int32)), (.int (0 : Int32)), (.int (0 : Int32))] (.int (0 : Int32))) (hb_1 : ¬ p1 < 0 ∧ p1 < (3 : Int32)) (ge_1 : Z.heap.size ≤ a2) (F_3 : Fld Z h0 a1 "ludarium/rules/BrutusWalk" "heldCount" "[I" (.ref a6)) (ne_1 : a1 ≠ a2) (A_4 : Arv Z h0 a6 k4 .int (2 : Int32) [(.int (2 : Int32)), (.int (4 : Int32))] (.int (0 : Int32))) (ne_2 : a6 ≠ a2) (ge_2 : Z.heap.size ≤ a6) (ne_3 : a1 ≠ a6) (ne_4 : a3 ≠ a2) (ne_5 : a3 ≠ a6) (ne_6 : a4 ≠ a2) (ne_7 : a4 ≠ a6) (ge_3 : Z.heap.size ≤ a4) (ne_8 : a2 ≠ a6) (ne_9 : a2 ≠ a4) (ne_10 : a6 ≠ a4) :
    Mt l Z (⟨"ludarium/rules/BrutusWalk", "take", "(III)V"⟩ : MethodName) prog_53_method_10_code 4 none [] ({ frames := 0, cells := 0, slots := 0, locals := 0 } : Room) #[(.ref a1), (.int p1), (.int (0 : Int32)), (.int (0 : Int32))] h0 (fun v h L => (v = none ∧ Fr Z.heap.size L ∧ Keep h0 h [a2, a6, a4] ∧ Arv Z h a2 k3 .int (3 : Int32) ([(.int (0 : Int32)), (.int (0 : Int32)), (.int (0 : Int32))].set p1.toNatClampNeg (.int p2)) (.int (0 : Int32)) ∧ Arv Z h a6 k4 .int (2 : Int32) [(.int (1 : Int32)), (.int (4 : Int32))] (.int (0 : Int32)) ∧ Arv Z h a4 k2 .int (4 : Int32) [(.int p3), (.int p3), (.int p4), (.int p5)] (.int (0 : Int32)))) := by
  refine g_body (plainFor_of_name pn_ludarium_rules_BrutusWalk) ?_
  intro p e s m below meth c T0 K X0 e0
  refine g_entry (ef_25 m a1 p1) ?_
  have N0 : Fr Z.heap.size [] := Fr.nil _
  have Ol0 := Ol
  have Kp0 : Keep h0 h0 [a2, a6, a4] := Keep.refl h0 _
  refine g_aloadN X0 K (q := 1) d11_0 rfl rfl rfl ?_
  refine g_getf X0 K (q := 4) (w62 H) Via.refl e0 F_1 d11_1 rfl ?_
  intro T1 X1 e1
  refine g_iloadN X1 K (q := 5) d11_4 rfl rfl ?_
  refine g_aloadN X1 K (q := 6) d11_5 rfl rfl rfl ?_
  refine g_getf X1 K (q := 9) (w82 H) Via.refl e1 F_2 d11_6 rfl ?_
  intro T2 X2 e2
  refine g_iloadN X2 K (q := 10) d11_9 rfl rfl ?_
  refine g_aald X2 K (q := 11) (v := (.ref a4)) e2 A_1 rfl (by decide) rfl d11_10 rfl ?_
  refine g_iloadN X2 K (q := 12) d11_11 rfl rfl ?_
  refine g_iald X2 K (q := 13) (v := (.int p2)) e2 A_2 (by decide) rfl d11_12 rfl ?_
  refine g_iast X2 K (q := 14) (vs' := ([(.int (0 : Int32)), (.int (0 : Int32)), (.int (0 : Int32))].set p1.toNatClampNeg (.int p2))) e2 A_3 hb_1 (own_idx hb_1 rfl) rfl d11_13 rfl ?_
  intro T3 h3 X3 e3 W3 F3
  have N3 := Fr.snoc X3 N0 ge_1
  have Ol3 := Ol0.wr W3 ge_1
  have Kp3 := Kp0.wr W3 (Or.inl (List.mem_of_getElem? (i := 0) rfl))
  refine g_aloadN X3 K (q := 15) d11_14 rfl rfl rfl ?_
  have f1 := (F_3.other W3 (Or.inl ne_1))
  refine g_getf X3 K (q := 18) (w84 H) Via.refl e3 f1 d11_15 rfl ?_
  intro T4 X4 e4
  refine g_iloadN X4 K (q := 19) d11_18 rfl rfl ?_
  refine g_dup2 X4 K (q := 20) d11_19 rfl rfl rfl ?_
  have f2 := (A_4.other W3 ne_2)
  refine g_iald X4 K (q := 21) (v := (.int (2 : Int32))) e4 f2 (by decide) rfl d11_20 rfl ?_
  refine g_iconst X4 K (q := 22) (v := (1 : Int32)) d11_21 (by decide) rfl ?_
  refine g_isub X4 K (q := 23) d11_22 (z := (1 : Int32)) (by decide) rfl ?_
  refine g_iast X4 K (q := 24) (vs' := [(.int (1 : Int32)), (.int (4 : Int32))]) e4 f2 (by decide) (Nat.le_of_ble_eq_true rfl) rfl d11_23 rfl ?_
  intro T5 h5 X5 e5 W5 F5
  have N5 := Fr.snoc X5 N3 ge_2
  have Ol5 := Ol3.wr W5 ge_2
  have Kp5 := Kp3.wr W5 (Or.inl (List.mem_of_getElem? (i := 1) rfl))
  refine g_aloadN X5 K (q := 25) d11_24 rfl rfl rfl ?_
  have f3 := ((F_2.other W3 (Or.inl ne_1)).other W5 (Or.inl ne_3))
  refine g_getf X5 K (q := 28) (w82 H) Via.refl e5 f3 d11_25 rfl ?_
  intro T6 X6 e6
  refine g_iloadN X6 K (q := 29) d11_28 rfl rfl ?_
  have f4 := ((A_1.other W3 ne_4).other W5 ne_5)
  refine g_aald X6 K (q := 30) (v := (.ref a4)) e6 f4 rfl (by decide) rfl d11_29 rfl ?_
  refine g_iloadN X6 K (q := 31) d11_30 rfl rfl ?_
  refine g_aloadN X6 K (q := 32) d11_31 rfl rfl rfl ?_
  refine g_getf X6 K (q := 35) (w82 H) Via.refl e6 f3 d11_32 rfl ?_
  intro T7 X7 e7
  refine g_iloadN X7 K (q := 36) d11_35 rfl rfl ?_
  refine g_aald X7 K (q := 37) (v := (.ref a4)) e7 f4 rfl (by decide) rfl d11_36 rfl ?_
  refine g_aloadN X7 K (q := 38) d11_37 rfl rfl rfl ?_
  have f5 := (f1.other W5 (Or.inl ne_3))
  refine g_getf X7 K (q := 41) (w84 H) Via.refl e7 f5 d11_38 rfl ?_
  intro T8 X8 e8
  refine g_iloadN X8 K (q := 42) d11_41 rfl rfl ?_
  refine g_iald X8 K (q := 43) (v := (.int (1 : Int32))) e8 F5 (by decide) rfl d11_42 rfl ?_
  have f6 := ((A_2.other W3 ne_6).other W5 ne_7)
  refine g_iald X8 K (q := 44) (v := (.int p3)) e8 f6 (by decide) rfl d11_43 rfl ?_
  refine g_iast X8 K (q := 45) (vs' := [(.int p3), (.int p3), (.int p4), (.int p5)]) e8 f6 (by decide) (Nat.le_of_ble_eq_true rfl) rfl d11_44 rfl ?_
  intro T9 h9 X9 e9 W9 F9
  have N9 := Fr.snoc X9 N5 ge_3
  have Ol9 := Ol5.wr W9 ge_3
  have Kp9 := Kp5.wr W9 (Or.inl (List.mem_of_getElem? (i := 2) rfl))
  refine g_ret X9 K d11_45 (by decide) (by decide) ?_
  have Kp : Keep h0 T9.heap [a2, a6, a4] := by rw [e9]; exact Kp9
  have f7 := ((F3.other W5 ne_8).other W9 ne_9)
  have f8 := (F5.other W9 ne_10)
  exact ⟨rfl, N9, Kp, (by rw [e9]; exact f7), (by rw [e9]; exact f8), (by rw [e9]; exact F9)⟩
set_option maxRecDepth 65536 in
set_option maxHeartbeats 40000000 in
theorem rm11_29 (l : Launch) {Z : State} {a0 : Array Value} (H : Hyp Z a0) (a1 : Addr) (p1 : Int32) (a2 : Addr) (a3 : Addr) (a4 : Addr) (a5 : Addr) (k1 : ClassId) (p2 : Int32) (p3 : Int32) (p4 : Int32) (p5 : Int32) (k2 : ClassId) (k3 : ClassId) (a6 : Addr) (k4 : ClassId) (h0 : Heap) (Ol : Old Z Z.heap.size h0) (F_1 : Fld Z h0 a1 "ludarium/rules/BrutusWalk" "moved" "[I" (.ref a2)) (F_2 : Fld Z h0 a1 "ludarium/rules/BrutusWalk" "held" "[[I" (.ref a3)) (A_1 : Arv Z h0 a3 k1 (.array .int) (2 : Int32) [(.ref a4), (.ref a5)] .null) (A_2 : Arv Z h0 a4 k2 .int (4 : Int32) [(.int p2), (.int p3), (.int p4), (.int p5)] (.int (0 : Int32))) (A_3 : Arv Z h0 a2 k3 .int (3 : Int32) [(.int (0 : Int32)), (.int (0 : Int32)), (.int (0 : Int32))] (.int (0 : Int32))) (hb_1 : ¬ p1 < 0 ∧ p1 < (3 : Int32)) (ge_1 : Z.heap.size ≤ a2) (F_3 : Fld Z h0 a1 "ludarium/rules/BrutusWalk" "heldCount" "[I" (.ref a6)) (ne_1 : a1 ≠ a2) (A_4 : Arv Z h0 a6 k4 .int (2 : Int32) [(.int (2 : Int32)), (.int (4 : Int32))] (.int (0 : Int32))) (ne_2 : a6 ≠ a2) (ge_2 : Z.heap.size ≤ a6) (ne_3 : a1 ≠ a6) (ne_4 : a3 ≠ a2) (ne_5 : a3 ≠ a6) (ne_6 : a4 ≠ a2) (ne_7 : a4 ≠ a6) (ge_3 : Z.heap.size ≤ a4) (ne_8 : a2 ≠ a6) (ne_9 : a2 ≠ a4) (ne_10 : a6 ≠ a4) :
    Mt l Z (⟨"ludarium/rules/BrutusWalk", "take", "(III)V"⟩ : MethodName) prog_53_method_10_code 4 none [] ({ frames := 0, cells := 0, slots := 0, locals := 0 } : Room) #[(.ref a1), (.int p1), (.int (0 : Int32)), (.int (1 : Int32))] h0 (fun v h L => (v = none ∧ Fr Z.heap.size L ∧ Keep h0 h [a2, a6, a4] ∧ Arv Z h a2 k3 .int (3 : Int32) ([(.int (0 : Int32)), (.int (0 : Int32)), (.int (0 : Int32))].set p1.toNatClampNeg (.int p3)) (.int (0 : Int32)) ∧ Arv Z h a6 k4 .int (2 : Int32) [(.int (1 : Int32)), (.int (4 : Int32))] (.int (0 : Int32)) ∧ Arv Z h a4 k2 .int (4 : Int32) [(.int p2), (.int p3), (.int p4), (.int p5)] (.int (0 : Int32)))) := by
  refine g_body (plainFor_of_name pn_ludarium_rules_BrutusWalk) ?_
  intro p e s m below meth c T0 K X0 e0
  refine g_entry (ef_26 m a1 p1) ?_
  have N0 : Fr Z.heap.size [] := Fr.nil _
  have Ol0 := Ol
  have Kp0 : Keep h0 h0 [a2, a6, a4] := Keep.refl h0 _
  refine g_aloadN X0 K (q := 1) d11_0 rfl rfl rfl ?_
  refine g_getf X0 K (q := 4) (w62 H) Via.refl e0 F_1 d11_1 rfl ?_
  intro T1 X1 e1
  refine g_iloadN X1 K (q := 5) d11_4 rfl rfl ?_
  refine g_aloadN X1 K (q := 6) d11_5 rfl rfl rfl ?_
  refine g_getf X1 K (q := 9) (w82 H) Via.refl e1 F_2 d11_6 rfl ?_
  intro T2 X2 e2
  refine g_iloadN X2 K (q := 10) d11_9 rfl rfl ?_
  refine g_aald X2 K (q := 11) (v := (.ref a4)) e2 A_1 rfl (by decide) rfl d11_10 rfl ?_
  refine g_iloadN X2 K (q := 12) d11_11 rfl rfl ?_
  refine g_iald X2 K (q := 13) (v := (.int p3)) e2 A_2 (by decide) rfl d11_12 rfl ?_
  refine g_iast X2 K (q := 14) (vs' := ([(.int (0 : Int32)), (.int (0 : Int32)), (.int (0 : Int32))].set p1.toNatClampNeg (.int p3))) e2 A_3 hb_1 (own_idx hb_1 rfl) rfl d11_13 rfl ?_
  intro T3 h3 X3 e3 W3 F3
  have N3 := Fr.snoc X3 N0 ge_1
  have Ol3 := Ol0.wr W3 ge_1
  have Kp3 := Kp0.wr W3 (Or.inl (List.mem_of_getElem? (i := 0) rfl))
  refine g_aloadN X3 K (q := 15) d11_14 rfl rfl rfl ?_
  have f1 := (F_3.other W3 (Or.inl ne_1))
  refine g_getf X3 K (q := 18) (w84 H) Via.refl e3 f1 d11_15 rfl ?_
  intro T4 X4 e4
  refine g_iloadN X4 K (q := 19) d11_18 rfl rfl ?_
  refine g_dup2 X4 K (q := 20) d11_19 rfl rfl rfl ?_
  have f2 := (A_4.other W3 ne_2)
  refine g_iald X4 K (q := 21) (v := (.int (2 : Int32))) e4 f2 (by decide) rfl d11_20 rfl ?_
  refine g_iconst X4 K (q := 22) (v := (1 : Int32)) d11_21 (by decide) rfl ?_
  refine g_isub X4 K (q := 23) d11_22 (z := (1 : Int32)) (by decide) rfl ?_
  refine g_iast X4 K (q := 24) (vs' := [(.int (1 : Int32)), (.int (4 : Int32))]) e4 f2 (by decide) (Nat.le_of_ble_eq_true rfl) rfl d11_23 rfl ?_
  intro T5 h5 X5 e5 W5 F5
  have N5 := Fr.snoc X5 N3 ge_2
  have Ol5 := Ol3.wr W5 ge_2
  have Kp5 := Kp3.wr W5 (Or.inl (List.mem_of_getElem? (i := 1) rfl))
  refine g_aloadN X5 K (q := 25) d11_24 rfl rfl rfl ?_
  have f3 := ((F_2.other W3 (Or.inl ne_1)).other W5 (Or.inl ne_3))
  refine g_getf X5 K (q := 28) (w82 H) Via.refl e5 f3 d11_25 rfl ?_
  intro T6 X6 e6
  refine g_iloadN X6 K (q := 29) d11_28 rfl rfl ?_
  have f4 := ((A_1.other W3 ne_4).other W5 ne_5)
  refine g_aald X6 K (q := 30) (v := (.ref a4)) e6 f4 rfl (by decide) rfl d11_29 rfl ?_
  refine g_iloadN X6 K (q := 31) d11_30 rfl rfl ?_
  refine g_aloadN X6 K (q := 32) d11_31 rfl rfl rfl ?_
  refine g_getf X6 K (q := 35) (w82 H) Via.refl e6 f3 d11_32 rfl ?_
  intro T7 X7 e7
  refine g_iloadN X7 K (q := 36) d11_35 rfl rfl ?_
  refine g_aald X7 K (q := 37) (v := (.ref a4)) e7 f4 rfl (by decide) rfl d11_36 rfl ?_
  refine g_aloadN X7 K (q := 38) d11_37 rfl rfl rfl ?_
  have f5 := (f1.other W5 (Or.inl ne_3))
  refine g_getf X7 K (q := 41) (w84 H) Via.refl e7 f5 d11_38 rfl ?_
  intro T8 X8 e8
  refine g_iloadN X8 K (q := 42) d11_41 rfl rfl ?_
  refine g_iald X8 K (q := 43) (v := (.int (1 : Int32))) e8 F5 (by decide) rfl d11_42 rfl ?_
  have f6 := ((A_2.other W3 ne_6).other W5 ne_7)
  refine g_iald X8 K (q := 44) (v := (.int p3)) e8 f6 (by decide) rfl d11_43 rfl ?_
  refine g_iast X8 K (q := 45) (vs' := [(.int p2), (.int p3), (.int p4), (.int p5)]) e8 f6 (by decide) (Nat.le_of_ble_eq_true rfl) rfl d11_44 rfl ?_
  intro T9 h9 X9 e9 W9 F9
  have N9 := Fr.snoc X9 N5 ge_3
  have Ol9 := Ol5.wr W9 ge_3
  have Kp9 := Kp5.wr W9 (Or.inl (List.mem_of_getElem? (i := 2) rfl))
  refine g_ret X9 K d11_45 (by decide) (by decide) ?_
  have Kp : Keep h0 T9.heap [a2, a6, a4] := by rw [e9]; exact Kp9
  have f7 := ((F3.other W5 ne_8).other W9 ne_9)
  have f8 := (F5.other W9 ne_10)
  exact ⟨rfl, N9, Kp, (by rw [e9]; exact f7), (by rw [e9]; exact f8), (by rw [e9]; exact F9)⟩
set_option maxRecDepth 65536 in
set_option maxHeartbeats 40000000 in
theorem rm11_30 (l : Launch) {Z : State} {a0 : Array Value} (H : Hyp Z a0) (a1 : Addr) (p1 : Int32) (a2 : Addr) (a3 : Addr) (a4 : Addr) (a5 : Addr) (k1 : ClassId) (p2 : Int32) (p3 : Int32) (p4 : Int32) (p5 : Int32) (k2 : ClassId) (k3 : ClassId) (a6 : Addr) (k4 : ClassId) (h0 : Heap) (Ol : Old Z Z.heap.size h0) (F_1 : Fld Z h0 a1 "ludarium/rules/BrutusWalk" "moved" "[I" (.ref a2)) (F_2 : Fld Z h0 a1 "ludarium/rules/BrutusWalk" "held" "[[I" (.ref a3)) (A_1 : Arv Z h0 a3 k1 (.array .int) (2 : Int32) [(.ref a4), (.ref a5)] .null) (A_2 : Arv Z h0 a4 k2 .int (4 : Int32) [(.int p2), (.int p3), (.int p4), (.int p5)] (.int (0 : Int32))) (A_3 : Arv Z h0 a2 k3 .int (3 : Int32) [(.int (0 : Int32)), (.int (0 : Int32)), (.int (0 : Int32))] (.int (0 : Int32))) (hb_1 : ¬ p1 < 0 ∧ p1 < (3 : Int32)) (ge_1 : Z.heap.size ≤ a2) (F_3 : Fld Z h0 a1 "ludarium/rules/BrutusWalk" "heldCount" "[I" (.ref a6)) (ne_1 : a1 ≠ a2) (A_4 : Arv Z h0 a6 k4 .int (2 : Int32) [(.int (3 : Int32)), (.int (4 : Int32))] (.int (0 : Int32))) (ne_2 : a6 ≠ a2) (ge_2 : Z.heap.size ≤ a6) (ne_3 : a1 ≠ a6) (ne_4 : a3 ≠ a2) (ne_5 : a3 ≠ a6) (ne_6 : a4 ≠ a2) (ne_7 : a4 ≠ a6) (ge_3 : Z.heap.size ≤ a4) (ne_8 : a2 ≠ a6) (ne_9 : a2 ≠ a4) (ne_10 : a6 ≠ a4) :
    Mt l Z (⟨"ludarium/rules/BrutusWalk", "take", "(III)V"⟩ : MethodName) prog_53_method_10_code 4 none [] ({ frames := 0, cells := 0, slots := 0, locals := 0 } : Room) #[(.ref a1), (.int p1), (.int (0 : Int32)), (.int (0 : Int32))] h0 (fun v h L => (v = none ∧ Fr Z.heap.size L ∧ Keep h0 h [a2, a6, a4] ∧ Arv Z h a2 k3 .int (3 : Int32) ([(.int (0 : Int32)), (.int (0 : Int32)), (.int (0 : Int32))].set p1.toNatClampNeg (.int p2)) (.int (0 : Int32)) ∧ Arv Z h a6 k4 .int (2 : Int32) [(.int (2 : Int32)), (.int (4 : Int32))] (.int (0 : Int32)) ∧ Arv Z h a4 k2 .int (4 : Int32) [(.int p4), (.int p3), (.int p4), (.int p5)] (.int (0 : Int32)))) := by
  refine g_body (plainFor_of_name pn_ludarium_rules_BrutusWalk) ?_
  intro p e s m below meth c T0 K X0 e0
  refine g_entry (ef_25 m a1 p1) ?_
  have N0 : Fr Z.heap.size [] := Fr.nil _
  have Ol0 := Ol
  have Kp0 : Keep h0 h0 [a2, a6, a4] := Keep.refl h0 _
  refine g_aloadN X0 K (q := 1) d11_0 rfl rfl rfl ?_
  refine g_getf X0 K (q := 4) (w62 H) Via.refl e0 F_1 d11_1 rfl ?_
  intro T1 X1 e1
  refine g_iloadN X1 K (q := 5) d11_4 rfl rfl ?_
  refine g_aloadN X1 K (q := 6) d11_5 rfl rfl rfl ?_
  refine g_getf X1 K (q := 9) (w82 H) Via.refl e1 F_2 d11_6 rfl ?_
  intro T2 X2 e2
  refine g_iloadN X2 K (q := 10) d11_9 rfl rfl ?_
  refine g_aald X2 K (q := 11) (v := (.ref a4)) e2 A_1 rfl (by decide) rfl d11_10 rfl ?_
  refine g_iloadN X2 K (q := 12) d11_11 rfl rfl ?_
  refine g_iald X2 K (q := 13) (v := (.int p2)) e2 A_2 (by decide) rfl d11_12 rfl ?_
  refine g_iast X2 K (q := 14) (vs' := ([(.int (0 : Int32)), (.int (0 : Int32)), (.int (0 : Int32))].set p1.toNatClampNeg (.int p2))) e2 A_3 hb_1 (own_idx hb_1 rfl) rfl d11_13 rfl ?_
  intro T3 h3 X3 e3 W3 F3
  have N3 := Fr.snoc X3 N0 ge_1
  have Ol3 := Ol0.wr W3 ge_1
  have Kp3 := Kp0.wr W3 (Or.inl (List.mem_of_getElem? (i := 0) rfl))
  refine g_aloadN X3 K (q := 15) d11_14 rfl rfl rfl ?_
  have f1 := (F_3.other W3 (Or.inl ne_1))
  refine g_getf X3 K (q := 18) (w84 H) Via.refl e3 f1 d11_15 rfl ?_
  intro T4 X4 e4
  refine g_iloadN X4 K (q := 19) d11_18 rfl rfl ?_
  refine g_dup2 X4 K (q := 20) d11_19 rfl rfl rfl ?_
  have f2 := (A_4.other W3 ne_2)
  refine g_iald X4 K (q := 21) (v := (.int (3 : Int32))) e4 f2 (by decide) rfl d11_20 rfl ?_
  refine g_iconst X4 K (q := 22) (v := (1 : Int32)) d11_21 (by decide) rfl ?_
  refine g_isub X4 K (q := 23) d11_22 (z := (2 : Int32)) (by decide) rfl ?_
  refine g_iast X4 K (q := 24) (vs' := [(.int (2 : Int32)), (.int (4 : Int32))]) e4 f2 (by decide) (Nat.le_of_ble_eq_true rfl) rfl d11_23 rfl ?_
  intro T5 h5 X5 e5 W5 F5
  have N5 := Fr.snoc X5 N3 ge_2
  have Ol5 := Ol3.wr W5 ge_2
  have Kp5 := Kp3.wr W5 (Or.inl (List.mem_of_getElem? (i := 1) rfl))
  refine g_aloadN X5 K (q := 25) d11_24 rfl rfl rfl ?_
  have f3 := ((F_2.other W3 (Or.inl ne_1)).other W5 (Or.inl ne_3))
  refine g_getf X5 K (q := 28) (w82 H) Via.refl e5 f3 d11_25 rfl ?_
  intro T6 X6 e6
  refine g_iloadN X6 K (q := 29) d11_28 rfl rfl ?_
  have f4 := ((A_1.other W3 ne_4).other W5 ne_5)
  refine g_aald X6 K (q := 30) (v := (.ref a4)) e6 f4 rfl (by decide) rfl d11_29 rfl ?_
  refine g_iloadN X6 K (q := 31) d11_30 rfl rfl ?_
  refine g_aloadN X6 K (q := 32) d11_31 rfl rfl rfl ?_
  refine g_getf X6 K (q := 35) (w82 H) Via.refl e6 f3 d11_32 rfl ?_
  intro T7 X7 e7
  refine g_iloadN X7 K (q := 36) d11_35 rfl rfl ?_
  refine g_aald X7 K (q := 37) (v := (.ref a4)) e7 f4 rfl (by decide) rfl d11_36 rfl ?_
  refine g_aloadN X7 K (q := 38) d11_37 rfl rfl rfl ?_
  have f5 := (f1.other W5 (Or.inl ne_3))
  refine g_getf X7 K (q := 41) (w84 H) Via.refl e7 f5 d11_38 rfl ?_
  intro T8 X8 e8
  refine g_iloadN X8 K (q := 42) d11_41 rfl rfl ?_
  refine g_iald X8 K (q := 43) (v := (.int (2 : Int32))) e8 F5 (by decide) rfl d11_42 rfl ?_
  have f6 := ((A_2.other W3 ne_6).other W5 ne_7)
  refine g_iald X8 K (q := 44) (v := (.int p4)) e8 f6 (by decide) rfl d11_43 rfl ?_
  refine g_iast X8 K (q := 45) (vs' := [(.int p4), (.int p3), (.int p4), (.int p5)]) e8 f6 (by decide) (Nat.le_of_ble_eq_true rfl) rfl d11_44 rfl ?_
  intro T9 h9 X9 e9 W9 F9
  have N9 := Fr.snoc X9 N5 ge_3
  have Ol9 := Ol5.wr W9 ge_3
  have Kp9 := Kp5.wr W9 (Or.inl (List.mem_of_getElem? (i := 2) rfl))
  refine g_ret X9 K d11_45 (by decide) (by decide) ?_
  have Kp : Keep h0 T9.heap [a2, a6, a4] := by rw [e9]; exact Kp9
  have f7 := ((F3.other W5 ne_8).other W9 ne_9)
  have f8 := (F5.other W9 ne_10)
  exact ⟨rfl, N9, Kp, (by rw [e9]; exact f7), (by rw [e9]; exact f8), (by rw [e9]; exact F9)⟩
set_option maxRecDepth 65536 in
set_option maxHeartbeats 40000000 in
theorem rm11_31 (l : Launch) {Z : State} {a0 : Array Value} (H : Hyp Z a0) (a1 : Addr) (p1 : Int32) (a2 : Addr) (a3 : Addr) (a4 : Addr) (a5 : Addr) (k1 : ClassId) (p2 : Int32) (p3 : Int32) (p4 : Int32) (p5 : Int32) (k2 : ClassId) (k3 : ClassId) (a6 : Addr) (k4 : ClassId) (h0 : Heap) (Ol : Old Z Z.heap.size h0) (F_1 : Fld Z h0 a1 "ludarium/rules/BrutusWalk" "moved" "[I" (.ref a2)) (F_2 : Fld Z h0 a1 "ludarium/rules/BrutusWalk" "held" "[[I" (.ref a3)) (A_1 : Arv Z h0 a3 k1 (.array .int) (2 : Int32) [(.ref a4), (.ref a5)] .null) (A_2 : Arv Z h0 a4 k2 .int (4 : Int32) [(.int p2), (.int p3), (.int p4), (.int p5)] (.int (0 : Int32))) (A_3 : Arv Z h0 a2 k3 .int (3 : Int32) [(.int (0 : Int32)), (.int (0 : Int32)), (.int (0 : Int32))] (.int (0 : Int32))) (hb_1 : ¬ p1 < 0 ∧ p1 < (3 : Int32)) (ge_1 : Z.heap.size ≤ a2) (F_3 : Fld Z h0 a1 "ludarium/rules/BrutusWalk" "heldCount" "[I" (.ref a6)) (ne_1 : a1 ≠ a2) (A_4 : Arv Z h0 a6 k4 .int (2 : Int32) [(.int (3 : Int32)), (.int (4 : Int32))] (.int (0 : Int32))) (ne_2 : a6 ≠ a2) (ge_2 : Z.heap.size ≤ a6) (ne_3 : a1 ≠ a6) (ne_4 : a3 ≠ a2) (ne_5 : a3 ≠ a6) (ne_6 : a4 ≠ a2) (ne_7 : a4 ≠ a6) (ge_3 : Z.heap.size ≤ a4) (ne_8 : a2 ≠ a6) (ne_9 : a2 ≠ a4) (ne_10 : a6 ≠ a4) :
    Mt l Z (⟨"ludarium/rules/BrutusWalk", "take", "(III)V"⟩ : MethodName) prog_53_method_10_code 4 none [] ({ frames := 0, cells := 0, slots := 0, locals := 0 } : Room) #[(.ref a1), (.int p1), (.int (0 : Int32)), (.int (1 : Int32))] h0 (fun v h L => (v = none ∧ Fr Z.heap.size L ∧ Keep h0 h [a2, a6, a4] ∧ Arv Z h a2 k3 .int (3 : Int32) ([(.int (0 : Int32)), (.int (0 : Int32)), (.int (0 : Int32))].set p1.toNatClampNeg (.int p3)) (.int (0 : Int32)) ∧ Arv Z h a6 k4 .int (2 : Int32) [(.int (2 : Int32)), (.int (4 : Int32))] (.int (0 : Int32)) ∧ Arv Z h a4 k2 .int (4 : Int32) [(.int p2), (.int p4), (.int p4), (.int p5)] (.int (0 : Int32)))) := by
  refine g_body (plainFor_of_name pn_ludarium_rules_BrutusWalk) ?_
  intro p e s m below meth c T0 K X0 e0
  refine g_entry (ef_26 m a1 p1) ?_
  have N0 : Fr Z.heap.size [] := Fr.nil _
  have Ol0 := Ol
  have Kp0 : Keep h0 h0 [a2, a6, a4] := Keep.refl h0 _
  refine g_aloadN X0 K (q := 1) d11_0 rfl rfl rfl ?_
  refine g_getf X0 K (q := 4) (w62 H) Via.refl e0 F_1 d11_1 rfl ?_
  intro T1 X1 e1
  refine g_iloadN X1 K (q := 5) d11_4 rfl rfl ?_
  refine g_aloadN X1 K (q := 6) d11_5 rfl rfl rfl ?_
  refine g_getf X1 K (q := 9) (w82 H) Via.refl e1 F_2 d11_6 rfl ?_
  intro T2 X2 e2
  refine g_iloadN X2 K (q := 10) d11_9 rfl rfl ?_
  refine g_aald X2 K (q := 11) (v := (.ref a4)) e2 A_1 rfl (by decide) rfl d11_10 rfl ?_
  refine g_iloadN X2 K (q := 12) d11_11 rfl rfl ?_
  refine g_iald X2 K (q := 13) (v := (.int p3)) e2 A_2 (by decide) rfl d11_12 rfl ?_
  refine g_iast X2 K (q := 14) (vs' := ([(.int (0 : Int32)), (.int (0 : Int32)), (.int (0 : Int32))].set p1.toNatClampNeg (.int p3))) e2 A_3 hb_1 (own_idx hb_1 rfl) rfl d11_13 rfl ?_
  intro T3 h3 X3 e3 W3 F3
  have N3 := Fr.snoc X3 N0 ge_1
  have Ol3 := Ol0.wr W3 ge_1
  have Kp3 := Kp0.wr W3 (Or.inl (List.mem_of_getElem? (i := 0) rfl))
  refine g_aloadN X3 K (q := 15) d11_14 rfl rfl rfl ?_
  have f1 := (F_3.other W3 (Or.inl ne_1))
  refine g_getf X3 K (q := 18) (w84 H) Via.refl e3 f1 d11_15 rfl ?_
  intro T4 X4 e4
  refine g_iloadN X4 K (q := 19) d11_18 rfl rfl ?_
  refine g_dup2 X4 K (q := 20) d11_19 rfl rfl rfl ?_
  have f2 := (A_4.other W3 ne_2)
  refine g_iald X4 K (q := 21) (v := (.int (3 : Int32))) e4 f2 (by decide) rfl d11_20 rfl ?_
  refine g_iconst X4 K (q := 22) (v := (1 : Int32)) d11_21 (by decide) rfl ?_
  refine g_isub X4 K (q := 23) d11_22 (z := (2 : Int32)) (by decide) rfl ?_
  refine g_iast X4 K (q := 24) (vs' := [(.int (2 : Int32)), (.int (4 : Int32))]) e4 f2 (by decide) (Nat.le_of_ble_eq_true rfl) rfl d11_23 rfl ?_
  intro T5 h5 X5 e5 W5 F5
  have N5 := Fr.snoc X5 N3 ge_2
  have Ol5 := Ol3.wr W5 ge_2
  have Kp5 := Kp3.wr W5 (Or.inl (List.mem_of_getElem? (i := 1) rfl))
  refine g_aloadN X5 K (q := 25) d11_24 rfl rfl rfl ?_
  have f3 := ((F_2.other W3 (Or.inl ne_1)).other W5 (Or.inl ne_3))
  refine g_getf X5 K (q := 28) (w82 H) Via.refl e5 f3 d11_25 rfl ?_
  intro T6 X6 e6
  refine g_iloadN X6 K (q := 29) d11_28 rfl rfl ?_
  have f4 := ((A_1.other W3 ne_4).other W5 ne_5)
  refine g_aald X6 K (q := 30) (v := (.ref a4)) e6 f4 rfl (by decide) rfl d11_29 rfl ?_
  refine g_iloadN X6 K (q := 31) d11_30 rfl rfl ?_
  refine g_aloadN X6 K (q := 32) d11_31 rfl rfl rfl ?_
  refine g_getf X6 K (q := 35) (w82 H) Via.refl e6 f3 d11_32 rfl ?_
  intro T7 X7 e7
  refine g_iloadN X7 K (q := 36) d11_35 rfl rfl ?_
  refine g_aald X7 K (q := 37) (v := (.ref a4)) e7 f4 rfl (by decide) rfl d11_36 rfl ?_
  refine g_aloadN X7 K (q := 38) d11_37 rfl rfl rfl ?_
  have f5 := (f1.other W5 (Or.inl ne_3))
  refine g_getf X7 K (q := 41) (w84 H) Via.refl e7 f5 d11_38 rfl ?_
  intro T8 X8 e8
  refine g_iloadN X8 K (q := 42) d11_41 rfl rfl ?_
  refine g_iald X8 K (q := 43) (v := (.int (2 : Int32))) e8 F5 (by decide) rfl d11_42 rfl ?_
  have f6 := ((A_2.other W3 ne_6).other W5 ne_7)
  refine g_iald X8 K (q := 44) (v := (.int p4)) e8 f6 (by decide) rfl d11_43 rfl ?_
  refine g_iast X8 K (q := 45) (vs' := [(.int p2), (.int p4), (.int p4), (.int p5)]) e8 f6 (by decide) (Nat.le_of_ble_eq_true rfl) rfl d11_44 rfl ?_
  intro T9 h9 X9 e9 W9 F9
  have N9 := Fr.snoc X9 N5 ge_3
  have Ol9 := Ol5.wr W9 ge_3
  have Kp9 := Kp5.wr W9 (Or.inl (List.mem_of_getElem? (i := 2) rfl))
  refine g_ret X9 K d11_45 (by decide) (by decide) ?_
  have Kp : Keep h0 T9.heap [a2, a6, a4] := by rw [e9]; exact Kp9
  have f7 := ((F3.other W5 ne_8).other W9 ne_9)
  have f8 := (F5.other W9 ne_10)
  exact ⟨rfl, N9, Kp, (by rw [e9]; exact f7), (by rw [e9]; exact f8), (by rw [e9]; exact F9)⟩
set_option maxRecDepth 65536 in
set_option maxHeartbeats 40000000 in
theorem rm11_32 (l : Launch) {Z : State} {a0 : Array Value} (H : Hyp Z a0) (a1 : Addr) (p1 : Int32) (a2 : Addr) (a3 : Addr) (a4 : Addr) (a5 : Addr) (k1 : ClassId) (p2 : Int32) (p3 : Int32) (p4 : Int32) (p5 : Int32) (k2 : ClassId) (k3 : ClassId) (a6 : Addr) (k4 : ClassId) (h0 : Heap) (Ol : Old Z Z.heap.size h0) (F_1 : Fld Z h0 a1 "ludarium/rules/BrutusWalk" "moved" "[I" (.ref a2)) (F_2 : Fld Z h0 a1 "ludarium/rules/BrutusWalk" "held" "[[I" (.ref a3)) (A_1 : Arv Z h0 a3 k1 (.array .int) (2 : Int32) [(.ref a4), (.ref a5)] .null) (A_2 : Arv Z h0 a4 k2 .int (4 : Int32) [(.int p2), (.int p3), (.int p4), (.int p5)] (.int (0 : Int32))) (A_3 : Arv Z h0 a2 k3 .int (3 : Int32) [(.int (0 : Int32)), (.int (0 : Int32)), (.int (0 : Int32))] (.int (0 : Int32))) (hb_1 : ¬ p1 < 0 ∧ p1 < (3 : Int32)) (ge_1 : Z.heap.size ≤ a2) (F_3 : Fld Z h0 a1 "ludarium/rules/BrutusWalk" "heldCount" "[I" (.ref a6)) (ne_1 : a1 ≠ a2) (A_4 : Arv Z h0 a6 k4 .int (2 : Int32) [(.int (3 : Int32)), (.int (4 : Int32))] (.int (0 : Int32))) (ne_2 : a6 ≠ a2) (ge_2 : Z.heap.size ≤ a6) (ne_3 : a1 ≠ a6) (ne_4 : a3 ≠ a2) (ne_5 : a3 ≠ a6) (ne_6 : a4 ≠ a2) (ne_7 : a4 ≠ a6) (ge_3 : Z.heap.size ≤ a4) (ne_8 : a2 ≠ a6) (ne_9 : a2 ≠ a4) (ne_10 : a6 ≠ a4) :
    Mt l Z (⟨"ludarium/rules/BrutusWalk", "take", "(III)V"⟩ : MethodName) prog_53_method_10_code 4 none [] ({ frames := 0, cells := 0, slots := 0, locals := 0 } : Room) #[(.ref a1), (.int p1), (.int (0 : Int32)), (.int (2 : Int32))] h0 (fun v h L => (v = none ∧ Fr Z.heap.size L ∧ Keep h0 h [a2, a6, a4] ∧ Arv Z h a2 k3 .int (3 : Int32) ([(.int (0 : Int32)), (.int (0 : Int32)), (.int (0 : Int32))].set p1.toNatClampNeg (.int p4)) (.int (0 : Int32)) ∧ Arv Z h a6 k4 .int (2 : Int32) [(.int (2 : Int32)), (.int (4 : Int32))] (.int (0 : Int32)) ∧ Arv Z h a4 k2 .int (4 : Int32) [(.int p2), (.int p3), (.int p4), (.int p5)] (.int (0 : Int32)))) := by
  refine g_body (plainFor_of_name pn_ludarium_rules_BrutusWalk) ?_
  intro p e s m below meth c T0 K X0 e0
  refine g_entry (ef_27 m a1 p1) ?_
  have N0 : Fr Z.heap.size [] := Fr.nil _
  have Ol0 := Ol
  have Kp0 : Keep h0 h0 [a2, a6, a4] := Keep.refl h0 _
  refine g_aloadN X0 K (q := 1) d11_0 rfl rfl rfl ?_
  refine g_getf X0 K (q := 4) (w62 H) Via.refl e0 F_1 d11_1 rfl ?_
  intro T1 X1 e1
  refine g_iloadN X1 K (q := 5) d11_4 rfl rfl ?_
  refine g_aloadN X1 K (q := 6) d11_5 rfl rfl rfl ?_
  refine g_getf X1 K (q := 9) (w82 H) Via.refl e1 F_2 d11_6 rfl ?_
  intro T2 X2 e2
  refine g_iloadN X2 K (q := 10) d11_9 rfl rfl ?_
  refine g_aald X2 K (q := 11) (v := (.ref a4)) e2 A_1 rfl (by decide) rfl d11_10 rfl ?_
  refine g_iloadN X2 K (q := 12) d11_11 rfl rfl ?_
  refine g_iald X2 K (q := 13) (v := (.int p4)) e2 A_2 (by decide) rfl d11_12 rfl ?_
  refine g_iast X2 K (q := 14) (vs' := ([(.int (0 : Int32)), (.int (0 : Int32)), (.int (0 : Int32))].set p1.toNatClampNeg (.int p4))) e2 A_3 hb_1 (own_idx hb_1 rfl) rfl d11_13 rfl ?_
  intro T3 h3 X3 e3 W3 F3
  have N3 := Fr.snoc X3 N0 ge_1
  have Ol3 := Ol0.wr W3 ge_1
  have Kp3 := Kp0.wr W3 (Or.inl (List.mem_of_getElem? (i := 0) rfl))
  refine g_aloadN X3 K (q := 15) d11_14 rfl rfl rfl ?_
  have f1 := (F_3.other W3 (Or.inl ne_1))
  refine g_getf X3 K (q := 18) (w84 H) Via.refl e3 f1 d11_15 rfl ?_
  intro T4 X4 e4
  refine g_iloadN X4 K (q := 19) d11_18 rfl rfl ?_
  refine g_dup2 X4 K (q := 20) d11_19 rfl rfl rfl ?_
  have f2 := (A_4.other W3 ne_2)
  refine g_iald X4 K (q := 21) (v := (.int (3 : Int32))) e4 f2 (by decide) rfl d11_20 rfl ?_
  refine g_iconst X4 K (q := 22) (v := (1 : Int32)) d11_21 (by decide) rfl ?_
  refine g_isub X4 K (q := 23) d11_22 (z := (2 : Int32)) (by decide) rfl ?_
  refine g_iast X4 K (q := 24) (vs' := [(.int (2 : Int32)), (.int (4 : Int32))]) e4 f2 (by decide) (Nat.le_of_ble_eq_true rfl) rfl d11_23 rfl ?_
  intro T5 h5 X5 e5 W5 F5
  have N5 := Fr.snoc X5 N3 ge_2
  have Ol5 := Ol3.wr W5 ge_2
  have Kp5 := Kp3.wr W5 (Or.inl (List.mem_of_getElem? (i := 1) rfl))
  refine g_aloadN X5 K (q := 25) d11_24 rfl rfl rfl ?_
  have f3 := ((F_2.other W3 (Or.inl ne_1)).other W5 (Or.inl ne_3))
  refine g_getf X5 K (q := 28) (w82 H) Via.refl e5 f3 d11_25 rfl ?_
  intro T6 X6 e6
  refine g_iloadN X6 K (q := 29) d11_28 rfl rfl ?_
  have f4 := ((A_1.other W3 ne_4).other W5 ne_5)
  refine g_aald X6 K (q := 30) (v := (.ref a4)) e6 f4 rfl (by decide) rfl d11_29 rfl ?_
  refine g_iloadN X6 K (q := 31) d11_30 rfl rfl ?_
  refine g_aloadN X6 K (q := 32) d11_31 rfl rfl rfl ?_
  refine g_getf X6 K (q := 35) (w82 H) Via.refl e6 f3 d11_32 rfl ?_
  intro T7 X7 e7
  refine g_iloadN X7 K (q := 36) d11_35 rfl rfl ?_
  refine g_aald X7 K (q := 37) (v := (.ref a4)) e7 f4 rfl (by decide) rfl d11_36 rfl ?_
  refine g_aloadN X7 K (q := 38) d11_37 rfl rfl rfl ?_
  have f5 := (f1.other W5 (Or.inl ne_3))
  refine g_getf X7 K (q := 41) (w84 H) Via.refl e7 f5 d11_38 rfl ?_
  intro T8 X8 e8
  refine g_iloadN X8 K (q := 42) d11_41 rfl rfl ?_
  refine g_iald X8 K (q := 43) (v := (.int (2 : Int32))) e8 F5 (by decide) rfl d11_42 rfl ?_
  have f6 := ((A_2.other W3 ne_6).other W5 ne_7)
  refine g_iald X8 K (q := 44) (v := (.int p4)) e8 f6 (by decide) rfl d11_43 rfl ?_
  refine g_iast X8 K (q := 45) (vs' := [(.int p2), (.int p3), (.int p4), (.int p5)]) e8 f6 (by decide) (Nat.le_of_ble_eq_true rfl) rfl d11_44 rfl ?_
  intro T9 h9 X9 e9 W9 F9
  have N9 := Fr.snoc X9 N5 ge_3
  have Ol9 := Ol5.wr W9 ge_3
  have Kp9 := Kp5.wr W9 (Or.inl (List.mem_of_getElem? (i := 2) rfl))
  refine g_ret X9 K d11_45 (by decide) (by decide) ?_
  have Kp : Keep h0 T9.heap [a2, a6, a4] := by rw [e9]; exact Kp9
  have f7 := ((F3.other W5 ne_8).other W9 ne_9)
  have f8 := (F5.other W9 ne_10)
  exact ⟨rfl, N9, Kp, (by rw [e9]; exact f7), (by rw [e9]; exact f8), (by rw [e9]; exact F9)⟩
set_option maxRecDepth 65536 in
set_option maxHeartbeats 40000000 in
theorem rm11_33 (l : Launch) {Z : State} {a0 : Array Value} (H : Hyp Z a0) (a1 : Addr) (p1 : Int32) (a2 : Addr) (a3 : Addr) (a4 : Addr) (a5 : Addr) (k1 : ClassId) (p2 : Int32) (p3 : Int32) (p4 : Int32) (p5 : Int32) (k2 : ClassId) (k3 : ClassId) (a6 : Addr) (k4 : ClassId) (h0 : Heap) (Ol : Old Z Z.heap.size h0) (F_1 : Fld Z h0 a1 "ludarium/rules/BrutusWalk" "moved" "[I" (.ref a2)) (F_2 : Fld Z h0 a1 "ludarium/rules/BrutusWalk" "held" "[[I" (.ref a3)) (A_1 : Arv Z h0 a3 k1 (.array .int) (2 : Int32) [(.ref a4), (.ref a5)] .null) (A_2 : Arv Z h0 a4 k2 .int (4 : Int32) [(.int p2), (.int p3), (.int p4), (.int p5)] (.int (0 : Int32))) (A_3 : Arv Z h0 a2 k3 .int (3 : Int32) [(.int (0 : Int32)), (.int (0 : Int32)), (.int (0 : Int32))] (.int (0 : Int32))) (hb_1 : ¬ p1 < 0 ∧ p1 < (3 : Int32)) (ge_1 : Z.heap.size ≤ a2) (F_3 : Fld Z h0 a1 "ludarium/rules/BrutusWalk" "heldCount" "[I" (.ref a6)) (ne_1 : a1 ≠ a2) (A_4 : Arv Z h0 a6 k4 .int (2 : Int32) [(.int (4 : Int32)), (.int (4 : Int32))] (.int (0 : Int32))) (ne_2 : a6 ≠ a2) (ge_2 : Z.heap.size ≤ a6) (ne_3 : a1 ≠ a6) (ne_4 : a3 ≠ a2) (ne_5 : a3 ≠ a6) (ne_6 : a4 ≠ a2) (ne_7 : a4 ≠ a6) (ge_3 : Z.heap.size ≤ a4) (ne_8 : a2 ≠ a6) (ne_9 : a2 ≠ a4) (ne_10 : a6 ≠ a4) :
    Mt l Z (⟨"ludarium/rules/BrutusWalk", "take", "(III)V"⟩ : MethodName) prog_53_method_10_code 4 none [] ({ frames := 0, cells := 0, slots := 0, locals := 0 } : Room) #[(.ref a1), (.int p1), (.int (0 : Int32)), (.int (0 : Int32))] h0 (fun v h L => (v = none ∧ Fr Z.heap.size L ∧ Keep h0 h [a2, a6, a4] ∧ Arv Z h a2 k3 .int (3 : Int32) ([(.int (0 : Int32)), (.int (0 : Int32)), (.int (0 : Int32))].set p1.toNatClampNeg (.int p2)) (.int (0 : Int32)) ∧ Arv Z h a6 k4 .int (2 : Int32) [(.int (3 : Int32)), (.int (4 : Int32))] (.int (0 : Int32)) ∧ Arv Z h a4 k2 .int (4 : Int32) [(.int p5), (.int p3), (.int p4), (.int p5)] (.int (0 : Int32)))) := by
  refine g_body (plainFor_of_name pn_ludarium_rules_BrutusWalk) ?_
  intro p e s m below meth c T0 K X0 e0
  refine g_entry (ef_25 m a1 p1) ?_
  have N0 : Fr Z.heap.size [] := Fr.nil _
  have Ol0 := Ol
  have Kp0 : Keep h0 h0 [a2, a6, a4] := Keep.refl h0 _
  refine g_aloadN X0 K (q := 1) d11_0 rfl rfl rfl ?_
  refine g_getf X0 K (q := 4) (w62 H) Via.refl e0 F_1 d11_1 rfl ?_
  intro T1 X1 e1
  refine g_iloadN X1 K (q := 5) d11_4 rfl rfl ?_
  refine g_aloadN X1 K (q := 6) d11_5 rfl rfl rfl ?_
  refine g_getf X1 K (q := 9) (w82 H) Via.refl e1 F_2 d11_6 rfl ?_
  intro T2 X2 e2
  refine g_iloadN X2 K (q := 10) d11_9 rfl rfl ?_
  refine g_aald X2 K (q := 11) (v := (.ref a4)) e2 A_1 rfl (by decide) rfl d11_10 rfl ?_
  refine g_iloadN X2 K (q := 12) d11_11 rfl rfl ?_
  refine g_iald X2 K (q := 13) (v := (.int p2)) e2 A_2 (by decide) rfl d11_12 rfl ?_
  refine g_iast X2 K (q := 14) (vs' := ([(.int (0 : Int32)), (.int (0 : Int32)), (.int (0 : Int32))].set p1.toNatClampNeg (.int p2))) e2 A_3 hb_1 (own_idx hb_1 rfl) rfl d11_13 rfl ?_
  intro T3 h3 X3 e3 W3 F3
  have N3 := Fr.snoc X3 N0 ge_1
  have Ol3 := Ol0.wr W3 ge_1
  have Kp3 := Kp0.wr W3 (Or.inl (List.mem_of_getElem? (i := 0) rfl))
  refine g_aloadN X3 K (q := 15) d11_14 rfl rfl rfl ?_
  have f1 := (F_3.other W3 (Or.inl ne_1))
  refine g_getf X3 K (q := 18) (w84 H) Via.refl e3 f1 d11_15 rfl ?_
  intro T4 X4 e4
  refine g_iloadN X4 K (q := 19) d11_18 rfl rfl ?_
  refine g_dup2 X4 K (q := 20) d11_19 rfl rfl rfl ?_
  have f2 := (A_4.other W3 ne_2)
  refine g_iald X4 K (q := 21) (v := (.int (4 : Int32))) e4 f2 (by decide) rfl d11_20 rfl ?_
  refine g_iconst X4 K (q := 22) (v := (1 : Int32)) d11_21 (by decide) rfl ?_
  refine g_isub X4 K (q := 23) d11_22 (z := (3 : Int32)) (by decide) rfl ?_
  refine g_iast X4 K (q := 24) (vs' := [(.int (3 : Int32)), (.int (4 : Int32))]) e4 f2 (by decide) (Nat.le_of_ble_eq_true rfl) rfl d11_23 rfl ?_
  intro T5 h5 X5 e5 W5 F5
  have N5 := Fr.snoc X5 N3 ge_2
  have Ol5 := Ol3.wr W5 ge_2
  have Kp5 := Kp3.wr W5 (Or.inl (List.mem_of_getElem? (i := 1) rfl))
  refine g_aloadN X5 K (q := 25) d11_24 rfl rfl rfl ?_
  have f3 := ((F_2.other W3 (Or.inl ne_1)).other W5 (Or.inl ne_3))
  refine g_getf X5 K (q := 28) (w82 H) Via.refl e5 f3 d11_25 rfl ?_
  intro T6 X6 e6
  refine g_iloadN X6 K (q := 29) d11_28 rfl rfl ?_
  have f4 := ((A_1.other W3 ne_4).other W5 ne_5)
  refine g_aald X6 K (q := 30) (v := (.ref a4)) e6 f4 rfl (by decide) rfl d11_29 rfl ?_
  refine g_iloadN X6 K (q := 31) d11_30 rfl rfl ?_
  refine g_aloadN X6 K (q := 32) d11_31 rfl rfl rfl ?_
  refine g_getf X6 K (q := 35) (w82 H) Via.refl e6 f3 d11_32 rfl ?_
  intro T7 X7 e7
  refine g_iloadN X7 K (q := 36) d11_35 rfl rfl ?_
  refine g_aald X7 K (q := 37) (v := (.ref a4)) e7 f4 rfl (by decide) rfl d11_36 rfl ?_
  refine g_aloadN X7 K (q := 38) d11_37 rfl rfl rfl ?_
  have f5 := (f1.other W5 (Or.inl ne_3))
  refine g_getf X7 K (q := 41) (w84 H) Via.refl e7 f5 d11_38 rfl ?_
  intro T8 X8 e8
  refine g_iloadN X8 K (q := 42) d11_41 rfl rfl ?_
  refine g_iald X8 K (q := 43) (v := (.int (3 : Int32))) e8 F5 (by decide) rfl d11_42 rfl ?_
  have f6 := ((A_2.other W3 ne_6).other W5 ne_7)
  refine g_iald X8 K (q := 44) (v := (.int p5)) e8 f6 (by decide) rfl d11_43 rfl ?_
  refine g_iast X8 K (q := 45) (vs' := [(.int p5), (.int p3), (.int p4), (.int p5)]) e8 f6 (by decide) (Nat.le_of_ble_eq_true rfl) rfl d11_44 rfl ?_
  intro T9 h9 X9 e9 W9 F9
  have N9 := Fr.snoc X9 N5 ge_3
  have Ol9 := Ol5.wr W9 ge_3
  have Kp9 := Kp5.wr W9 (Or.inl (List.mem_of_getElem? (i := 2) rfl))
  refine g_ret X9 K d11_45 (by decide) (by decide) ?_
  have Kp : Keep h0 T9.heap [a2, a6, a4] := by rw [e9]; exact Kp9
  have f7 := ((F3.other W5 ne_8).other W9 ne_9)
  have f8 := (F5.other W9 ne_10)
  exact ⟨rfl, N9, Kp, (by rw [e9]; exact f7), (by rw [e9]; exact f8), (by rw [e9]; exact F9)⟩
set_option maxRecDepth 65536 in
set_option maxHeartbeats 40000000 in
theorem rm11_34 (l : Launch) {Z : State} {a0 : Array Value} (H : Hyp Z a0) (a1 : Addr) (p1 : Int32) (a2 : Addr) (a3 : Addr) (a4 : Addr) (a5 : Addr) (k1 : ClassId) (p2 : Int32) (p3 : Int32) (p4 : Int32) (p5 : Int32) (k2 : ClassId) (k3 : ClassId) (a6 : Addr) (k4 : ClassId) (h0 : Heap) (Ol : Old Z Z.heap.size h0) (F_1 : Fld Z h0 a1 "ludarium/rules/BrutusWalk" "moved" "[I" (.ref a2)) (F_2 : Fld Z h0 a1 "ludarium/rules/BrutusWalk" "held" "[[I" (.ref a3)) (A_1 : Arv Z h0 a3 k1 (.array .int) (2 : Int32) [(.ref a4), (.ref a5)] .null) (A_2 : Arv Z h0 a4 k2 .int (4 : Int32) [(.int p2), (.int p3), (.int p4), (.int p5)] (.int (0 : Int32))) (A_3 : Arv Z h0 a2 k3 .int (3 : Int32) [(.int (0 : Int32)), (.int (0 : Int32)), (.int (0 : Int32))] (.int (0 : Int32))) (hb_1 : ¬ p1 < 0 ∧ p1 < (3 : Int32)) (ge_1 : Z.heap.size ≤ a2) (F_3 : Fld Z h0 a1 "ludarium/rules/BrutusWalk" "heldCount" "[I" (.ref a6)) (ne_1 : a1 ≠ a2) (A_4 : Arv Z h0 a6 k4 .int (2 : Int32) [(.int (4 : Int32)), (.int (4 : Int32))] (.int (0 : Int32))) (ne_2 : a6 ≠ a2) (ge_2 : Z.heap.size ≤ a6) (ne_3 : a1 ≠ a6) (ne_4 : a3 ≠ a2) (ne_5 : a3 ≠ a6) (ne_6 : a4 ≠ a2) (ne_7 : a4 ≠ a6) (ge_3 : Z.heap.size ≤ a4) (ne_8 : a2 ≠ a6) (ne_9 : a2 ≠ a4) (ne_10 : a6 ≠ a4) :
    Mt l Z (⟨"ludarium/rules/BrutusWalk", "take", "(III)V"⟩ : MethodName) prog_53_method_10_code 4 none [] ({ frames := 0, cells := 0, slots := 0, locals := 0 } : Room) #[(.ref a1), (.int p1), (.int (0 : Int32)), (.int (1 : Int32))] h0 (fun v h L => (v = none ∧ Fr Z.heap.size L ∧ Keep h0 h [a2, a6, a4] ∧ Arv Z h a2 k3 .int (3 : Int32) ([(.int (0 : Int32)), (.int (0 : Int32)), (.int (0 : Int32))].set p1.toNatClampNeg (.int p3)) (.int (0 : Int32)) ∧ Arv Z h a6 k4 .int (2 : Int32) [(.int (3 : Int32)), (.int (4 : Int32))] (.int (0 : Int32)) ∧ Arv Z h a4 k2 .int (4 : Int32) [(.int p2), (.int p5), (.int p4), (.int p5)] (.int (0 : Int32)))) := by
  refine g_body (plainFor_of_name pn_ludarium_rules_BrutusWalk) ?_
  intro p e s m below meth c T0 K X0 e0
  refine g_entry (ef_26 m a1 p1) ?_
  have N0 : Fr Z.heap.size [] := Fr.nil _
  have Ol0 := Ol
  have Kp0 : Keep h0 h0 [a2, a6, a4] := Keep.refl h0 _
  refine g_aloadN X0 K (q := 1) d11_0 rfl rfl rfl ?_
  refine g_getf X0 K (q := 4) (w62 H) Via.refl e0 F_1 d11_1 rfl ?_
  intro T1 X1 e1
  refine g_iloadN X1 K (q := 5) d11_4 rfl rfl ?_
  refine g_aloadN X1 K (q := 6) d11_5 rfl rfl rfl ?_
  refine g_getf X1 K (q := 9) (w82 H) Via.refl e1 F_2 d11_6 rfl ?_
  intro T2 X2 e2
  refine g_iloadN X2 K (q := 10) d11_9 rfl rfl ?_
  refine g_aald X2 K (q := 11) (v := (.ref a4)) e2 A_1 rfl (by decide) rfl d11_10 rfl ?_
  refine g_iloadN X2 K (q := 12) d11_11 rfl rfl ?_
  refine g_iald X2 K (q := 13) (v := (.int p3)) e2 A_2 (by decide) rfl d11_12 rfl ?_
  refine g_iast X2 K (q := 14) (vs' := ([(.int (0 : Int32)), (.int (0 : Int32)), (.int (0 : Int32))].set p1.toNatClampNeg (.int p3))) e2 A_3 hb_1 (own_idx hb_1 rfl) rfl d11_13 rfl ?_
  intro T3 h3 X3 e3 W3 F3
  have N3 := Fr.snoc X3 N0 ge_1
  have Ol3 := Ol0.wr W3 ge_1
  have Kp3 := Kp0.wr W3 (Or.inl (List.mem_of_getElem? (i := 0) rfl))
  refine g_aloadN X3 K (q := 15) d11_14 rfl rfl rfl ?_
  have f1 := (F_3.other W3 (Or.inl ne_1))
  refine g_getf X3 K (q := 18) (w84 H) Via.refl e3 f1 d11_15 rfl ?_
  intro T4 X4 e4
  refine g_iloadN X4 K (q := 19) d11_18 rfl rfl ?_
  refine g_dup2 X4 K (q := 20) d11_19 rfl rfl rfl ?_
  have f2 := (A_4.other W3 ne_2)
  refine g_iald X4 K (q := 21) (v := (.int (4 : Int32))) e4 f2 (by decide) rfl d11_20 rfl ?_
  refine g_iconst X4 K (q := 22) (v := (1 : Int32)) d11_21 (by decide) rfl ?_
  refine g_isub X4 K (q := 23) d11_22 (z := (3 : Int32)) (by decide) rfl ?_
  refine g_iast X4 K (q := 24) (vs' := [(.int (3 : Int32)), (.int (4 : Int32))]) e4 f2 (by decide) (Nat.le_of_ble_eq_true rfl) rfl d11_23 rfl ?_
  intro T5 h5 X5 e5 W5 F5
  have N5 := Fr.snoc X5 N3 ge_2
  have Ol5 := Ol3.wr W5 ge_2
  have Kp5 := Kp3.wr W5 (Or.inl (List.mem_of_getElem? (i := 1) rfl))
  refine g_aloadN X5 K (q := 25) d11_24 rfl rfl rfl ?_
  have f3 := ((F_2.other W3 (Or.inl ne_1)).other W5 (Or.inl ne_3))
  refine g_getf X5 K (q := 28) (w82 H) Via.refl e5 f3 d11_25 rfl ?_
  intro T6 X6 e6
  refine g_iloadN X6 K (q := 29) d11_28 rfl rfl ?_
  have f4 := ((A_1.other W3 ne_4).other W5 ne_5)
  refine g_aald X6 K (q := 30) (v := (.ref a4)) e6 f4 rfl (by decide) rfl d11_29 rfl ?_
  refine g_iloadN X6 K (q := 31) d11_30 rfl rfl ?_
  refine g_aloadN X6 K (q := 32) d11_31 rfl rfl rfl ?_
  refine g_getf X6 K (q := 35) (w82 H) Via.refl e6 f3 d11_32 rfl ?_
  intro T7 X7 e7
  refine g_iloadN X7 K (q := 36) d11_35 rfl rfl ?_
  refine g_aald X7 K (q := 37) (v := (.ref a4)) e7 f4 rfl (by decide) rfl d11_36 rfl ?_
  refine g_aloadN X7 K (q := 38) d11_37 rfl rfl rfl ?_
  have f5 := (f1.other W5 (Or.inl ne_3))
  refine g_getf X7 K (q := 41) (w84 H) Via.refl e7 f5 d11_38 rfl ?_
  intro T8 X8 e8
  refine g_iloadN X8 K (q := 42) d11_41 rfl rfl ?_
  refine g_iald X8 K (q := 43) (v := (.int (3 : Int32))) e8 F5 (by decide) rfl d11_42 rfl ?_
  have f6 := ((A_2.other W3 ne_6).other W5 ne_7)
  refine g_iald X8 K (q := 44) (v := (.int p5)) e8 f6 (by decide) rfl d11_43 rfl ?_
  refine g_iast X8 K (q := 45) (vs' := [(.int p2), (.int p5), (.int p4), (.int p5)]) e8 f6 (by decide) (Nat.le_of_ble_eq_true rfl) rfl d11_44 rfl ?_
  intro T9 h9 X9 e9 W9 F9
  have N9 := Fr.snoc X9 N5 ge_3
  have Ol9 := Ol5.wr W9 ge_3
  have Kp9 := Kp5.wr W9 (Or.inl (List.mem_of_getElem? (i := 2) rfl))
  refine g_ret X9 K d11_45 (by decide) (by decide) ?_
  have Kp : Keep h0 T9.heap [a2, a6, a4] := by rw [e9]; exact Kp9
  have f7 := ((F3.other W5 ne_8).other W9 ne_9)
  have f8 := (F5.other W9 ne_10)
  exact ⟨rfl, N9, Kp, (by rw [e9]; exact f7), (by rw [e9]; exact f8), (by rw [e9]; exact F9)⟩
set_option maxRecDepth 65536 in
set_option maxHeartbeats 40000000 in
theorem rm11_35 (l : Launch) {Z : State} {a0 : Array Value} (H : Hyp Z a0) (a1 : Addr) (p1 : Int32) (a2 : Addr) (a3 : Addr) (a4 : Addr) (a5 : Addr) (k1 : ClassId) (p2 : Int32) (p3 : Int32) (p4 : Int32) (p5 : Int32) (k2 : ClassId) (k3 : ClassId) (a6 : Addr) (k4 : ClassId) (h0 : Heap) (Ol : Old Z Z.heap.size h0) (F_1 : Fld Z h0 a1 "ludarium/rules/BrutusWalk" "moved" "[I" (.ref a2)) (F_2 : Fld Z h0 a1 "ludarium/rules/BrutusWalk" "held" "[[I" (.ref a3)) (A_1 : Arv Z h0 a3 k1 (.array .int) (2 : Int32) [(.ref a4), (.ref a5)] .null) (A_2 : Arv Z h0 a4 k2 .int (4 : Int32) [(.int p2), (.int p3), (.int p4), (.int p5)] (.int (0 : Int32))) (A_3 : Arv Z h0 a2 k3 .int (3 : Int32) [(.int (0 : Int32)), (.int (0 : Int32)), (.int (0 : Int32))] (.int (0 : Int32))) (hb_1 : ¬ p1 < 0 ∧ p1 < (3 : Int32)) (ge_1 : Z.heap.size ≤ a2) (F_3 : Fld Z h0 a1 "ludarium/rules/BrutusWalk" "heldCount" "[I" (.ref a6)) (ne_1 : a1 ≠ a2) (A_4 : Arv Z h0 a6 k4 .int (2 : Int32) [(.int (4 : Int32)), (.int (4 : Int32))] (.int (0 : Int32))) (ne_2 : a6 ≠ a2) (ge_2 : Z.heap.size ≤ a6) (ne_3 : a1 ≠ a6) (ne_4 : a3 ≠ a2) (ne_5 : a3 ≠ a6) (ne_6 : a4 ≠ a2) (ne_7 : a4 ≠ a6) (ge_3 : Z.heap.size ≤ a4) (ne_8 : a2 ≠ a6) (ne_9 : a2 ≠ a4) (ne_10 : a6 ≠ a4) :
    Mt l Z (⟨"ludarium/rules/BrutusWalk", "take", "(III)V"⟩ : MethodName) prog_53_method_10_code 4 none [] ({ frames := 0, cells := 0, slots := 0, locals := 0 } : Room) #[(.ref a1), (.int p1), (.int (0 : Int32)), (.int (2 : Int32))] h0 (fun v h L => (v = none ∧ Fr Z.heap.size L ∧ Keep h0 h [a2, a6, a4] ∧ Arv Z h a2 k3 .int (3 : Int32) ([(.int (0 : Int32)), (.int (0 : Int32)), (.int (0 : Int32))].set p1.toNatClampNeg (.int p4)) (.int (0 : Int32)) ∧ Arv Z h a6 k4 .int (2 : Int32) [(.int (3 : Int32)), (.int (4 : Int32))] (.int (0 : Int32)) ∧ Arv Z h a4 k2 .int (4 : Int32) [(.int p2), (.int p3), (.int p5), (.int p5)] (.int (0 : Int32)))) := by
  refine g_body (plainFor_of_name pn_ludarium_rules_BrutusWalk) ?_
  intro p e s m below meth c T0 K X0 e0
  refine g_entry (ef_27 m a1 p1) ?_
  have N0 : Fr Z.heap.size [] := Fr.nil _
  have Ol0 := Ol
  have Kp0 : Keep h0 h0 [a2, a6, a4] := Keep.refl h0 _
  refine g_aloadN X0 K (q := 1) d11_0 rfl rfl rfl ?_
  refine g_getf X0 K (q := 4) (w62 H) Via.refl e0 F_1 d11_1 rfl ?_
  intro T1 X1 e1
  refine g_iloadN X1 K (q := 5) d11_4 rfl rfl ?_
  refine g_aloadN X1 K (q := 6) d11_5 rfl rfl rfl ?_
  refine g_getf X1 K (q := 9) (w82 H) Via.refl e1 F_2 d11_6 rfl ?_
  intro T2 X2 e2
  refine g_iloadN X2 K (q := 10) d11_9 rfl rfl ?_
  refine g_aald X2 K (q := 11) (v := (.ref a4)) e2 A_1 rfl (by decide) rfl d11_10 rfl ?_
  refine g_iloadN X2 K (q := 12) d11_11 rfl rfl ?_
  refine g_iald X2 K (q := 13) (v := (.int p4)) e2 A_2 (by decide) rfl d11_12 rfl ?_
  refine g_iast X2 K (q := 14) (vs' := ([(.int (0 : Int32)), (.int (0 : Int32)), (.int (0 : Int32))].set p1.toNatClampNeg (.int p4))) e2 A_3 hb_1 (own_idx hb_1 rfl) rfl d11_13 rfl ?_
  intro T3 h3 X3 e3 W3 F3
  have N3 := Fr.snoc X3 N0 ge_1
  have Ol3 := Ol0.wr W3 ge_1
  have Kp3 := Kp0.wr W3 (Or.inl (List.mem_of_getElem? (i := 0) rfl))
  refine g_aloadN X3 K (q := 15) d11_14 rfl rfl rfl ?_
  have f1 := (F_3.other W3 (Or.inl ne_1))
  refine g_getf X3 K (q := 18) (w84 H) Via.refl e3 f1 d11_15 rfl ?_
  intro T4 X4 e4
  refine g_iloadN X4 K (q := 19) d11_18 rfl rfl ?_
  refine g_dup2 X4 K (q := 20) d11_19 rfl rfl rfl ?_
  have f2 := (A_4.other W3 ne_2)
  refine g_iald X4 K (q := 21) (v := (.int (4 : Int32))) e4 f2 (by decide) rfl d11_20 rfl ?_
  refine g_iconst X4 K (q := 22) (v := (1 : Int32)) d11_21 (by decide) rfl ?_
  refine g_isub X4 K (q := 23) d11_22 (z := (3 : Int32)) (by decide) rfl ?_
  refine g_iast X4 K (q := 24) (vs' := [(.int (3 : Int32)), (.int (4 : Int32))]) e4 f2 (by decide) (Nat.le_of_ble_eq_true rfl) rfl d11_23 rfl ?_
  intro T5 h5 X5 e5 W5 F5
  have N5 := Fr.snoc X5 N3 ge_2
  have Ol5 := Ol3.wr W5 ge_2
  have Kp5 := Kp3.wr W5 (Or.inl (List.mem_of_getElem? (i := 1) rfl))
  refine g_aloadN X5 K (q := 25) d11_24 rfl rfl rfl ?_
  have f3 := ((F_2.other W3 (Or.inl ne_1)).other W5 (Or.inl ne_3))
  refine g_getf X5 K (q := 28) (w82 H) Via.refl e5 f3 d11_25 rfl ?_
  intro T6 X6 e6
  refine g_iloadN X6 K (q := 29) d11_28 rfl rfl ?_
  have f4 := ((A_1.other W3 ne_4).other W5 ne_5)
  refine g_aald X6 K (q := 30) (v := (.ref a4)) e6 f4 rfl (by decide) rfl d11_29 rfl ?_
  refine g_iloadN X6 K (q := 31) d11_30 rfl rfl ?_
  refine g_aloadN X6 K (q := 32) d11_31 rfl rfl rfl ?_
  refine g_getf X6 K (q := 35) (w82 H) Via.refl e6 f3 d11_32 rfl ?_
  intro T7 X7 e7
  refine g_iloadN X7 K (q := 36) d11_35 rfl rfl ?_
  refine g_aald X7 K (q := 37) (v := (.ref a4)) e7 f4 rfl (by decide) rfl d11_36 rfl ?_
  refine g_aloadN X7 K (q := 38) d11_37 rfl rfl rfl ?_
  have f5 := (f1.other W5 (Or.inl ne_3))
  refine g_getf X7 K (q := 41) (w84 H) Via.refl e7 f5 d11_38 rfl ?_
  intro T8 X8 e8
  refine g_iloadN X8 K (q := 42) d11_41 rfl rfl ?_
  refine g_iald X8 K (q := 43) (v := (.int (3 : Int32))) e8 F5 (by decide) rfl d11_42 rfl ?_
  have f6 := ((A_2.other W3 ne_6).other W5 ne_7)
  refine g_iald X8 K (q := 44) (v := (.int p5)) e8 f6 (by decide) rfl d11_43 rfl ?_
  refine g_iast X8 K (q := 45) (vs' := [(.int p2), (.int p3), (.int p5), (.int p5)]) e8 f6 (by decide) (Nat.le_of_ble_eq_true rfl) rfl d11_44 rfl ?_
  intro T9 h9 X9 e9 W9 F9
  have N9 := Fr.snoc X9 N5 ge_3
  have Ol9 := Ol5.wr W9 ge_3
  have Kp9 := Kp5.wr W9 (Or.inl (List.mem_of_getElem? (i := 2) rfl))
  refine g_ret X9 K d11_45 (by decide) (by decide) ?_
  have Kp : Keep h0 T9.heap [a2, a6, a4] := by rw [e9]; exact Kp9
  have f7 := ((F3.other W5 ne_8).other W9 ne_9)
  have f8 := (F5.other W9 ne_10)
  exact ⟨rfl, N9, Kp, (by rw [e9]; exact f7), (by rw [e9]; exact f8), (by rw [e9]; exact F9)⟩
set_option maxRecDepth 65536 in
set_option maxHeartbeats 40000000 in
theorem rm11_36 (l : Launch) {Z : State} {a0 : Array Value} (H : Hyp Z a0) (a1 : Addr) (p1 : Int32) (a2 : Addr) (a3 : Addr) (a4 : Addr) (a5 : Addr) (k1 : ClassId) (p2 : Int32) (p3 : Int32) (p4 : Int32) (p5 : Int32) (k2 : ClassId) (k3 : ClassId) (a6 : Addr) (k4 : ClassId) (h0 : Heap) (Ol : Old Z Z.heap.size h0) (F_1 : Fld Z h0 a1 "ludarium/rules/BrutusWalk" "moved" "[I" (.ref a2)) (F_2 : Fld Z h0 a1 "ludarium/rules/BrutusWalk" "held" "[[I" (.ref a3)) (A_1 : Arv Z h0 a3 k1 (.array .int) (2 : Int32) [(.ref a4), (.ref a5)] .null) (A_2 : Arv Z h0 a4 k2 .int (4 : Int32) [(.int p2), (.int p3), (.int p4), (.int p5)] (.int (0 : Int32))) (A_3 : Arv Z h0 a2 k3 .int (3 : Int32) [(.int (0 : Int32)), (.int (0 : Int32)), (.int (0 : Int32))] (.int (0 : Int32))) (hb_1 : ¬ p1 < 0 ∧ p1 < (3 : Int32)) (ge_1 : Z.heap.size ≤ a2) (F_3 : Fld Z h0 a1 "ludarium/rules/BrutusWalk" "heldCount" "[I" (.ref a6)) (ne_1 : a1 ≠ a2) (A_4 : Arv Z h0 a6 k4 .int (2 : Int32) [(.int (4 : Int32)), (.int (4 : Int32))] (.int (0 : Int32))) (ne_2 : a6 ≠ a2) (ge_2 : Z.heap.size ≤ a6) (ne_3 : a1 ≠ a6) (ne_4 : a3 ≠ a2) (ne_5 : a3 ≠ a6) (ne_6 : a4 ≠ a2) (ne_7 : a4 ≠ a6) (ge_3 : Z.heap.size ≤ a4) (ne_8 : a2 ≠ a6) (ne_9 : a2 ≠ a4) (ne_10 : a6 ≠ a4) :
    Mt l Z (⟨"ludarium/rules/BrutusWalk", "take", "(III)V"⟩ : MethodName) prog_53_method_10_code 4 none [] ({ frames := 0, cells := 0, slots := 0, locals := 0 } : Room) #[(.ref a1), (.int p1), (.int (0 : Int32)), (.int (3 : Int32))] h0 (fun v h L => (v = none ∧ Fr Z.heap.size L ∧ Keep h0 h [a2, a6, a4] ∧ Arv Z h a2 k3 .int (3 : Int32) ([(.int (0 : Int32)), (.int (0 : Int32)), (.int (0 : Int32))].set p1.toNatClampNeg (.int p5)) (.int (0 : Int32)) ∧ Arv Z h a6 k4 .int (2 : Int32) [(.int (3 : Int32)), (.int (4 : Int32))] (.int (0 : Int32)) ∧ Arv Z h a4 k2 .int (4 : Int32) [(.int p2), (.int p3), (.int p4), (.int p5)] (.int (0 : Int32)))) := by
  refine g_body (plainFor_of_name pn_ludarium_rules_BrutusWalk) ?_
  intro p e s m below meth c T0 K X0 e0
  refine g_entry (ef_28 m a1 p1) ?_
  have N0 : Fr Z.heap.size [] := Fr.nil _
  have Ol0 := Ol
  have Kp0 : Keep h0 h0 [a2, a6, a4] := Keep.refl h0 _
  refine g_aloadN X0 K (q := 1) d11_0 rfl rfl rfl ?_
  refine g_getf X0 K (q := 4) (w62 H) Via.refl e0 F_1 d11_1 rfl ?_
  intro T1 X1 e1
  refine g_iloadN X1 K (q := 5) d11_4 rfl rfl ?_
  refine g_aloadN X1 K (q := 6) d11_5 rfl rfl rfl ?_
  refine g_getf X1 K (q := 9) (w82 H) Via.refl e1 F_2 d11_6 rfl ?_
  intro T2 X2 e2
  refine g_iloadN X2 K (q := 10) d11_9 rfl rfl ?_
  refine g_aald X2 K (q := 11) (v := (.ref a4)) e2 A_1 rfl (by decide) rfl d11_10 rfl ?_
  refine g_iloadN X2 K (q := 12) d11_11 rfl rfl ?_
  refine g_iald X2 K (q := 13) (v := (.int p5)) e2 A_2 (by decide) rfl d11_12 rfl ?_
  refine g_iast X2 K (q := 14) (vs' := ([(.int (0 : Int32)), (.int (0 : Int32)), (.int (0 : Int32))].set p1.toNatClampNeg (.int p5))) e2 A_3 hb_1 (own_idx hb_1 rfl) rfl d11_13 rfl ?_
  intro T3 h3 X3 e3 W3 F3
  have N3 := Fr.snoc X3 N0 ge_1
  have Ol3 := Ol0.wr W3 ge_1
  have Kp3 := Kp0.wr W3 (Or.inl (List.mem_of_getElem? (i := 0) rfl))
  refine g_aloadN X3 K (q := 15) d11_14 rfl rfl rfl ?_
  have f1 := (F_3.other W3 (Or.inl ne_1))
  refine g_getf X3 K (q := 18) (w84 H) Via.refl e3 f1 d11_15 rfl ?_
  intro T4 X4 e4
  refine g_iloadN X4 K (q := 19) d11_18 rfl rfl ?_
  refine g_dup2 X4 K (q := 20) d11_19 rfl rfl rfl ?_
  have f2 := (A_4.other W3 ne_2)
  refine g_iald X4 K (q := 21) (v := (.int (4 : Int32))) e4 f2 (by decide) rfl d11_20 rfl ?_
  refine g_iconst X4 K (q := 22) (v := (1 : Int32)) d11_21 (by decide) rfl ?_
  refine g_isub X4 K (q := 23) d11_22 (z := (3 : Int32)) (by decide) rfl ?_
  refine g_iast X4 K (q := 24) (vs' := [(.int (3 : Int32)), (.int (4 : Int32))]) e4 f2 (by decide) (Nat.le_of_ble_eq_true rfl) rfl d11_23 rfl ?_
  intro T5 h5 X5 e5 W5 F5
  have N5 := Fr.snoc X5 N3 ge_2
  have Ol5 := Ol3.wr W5 ge_2
  have Kp5 := Kp3.wr W5 (Or.inl (List.mem_of_getElem? (i := 1) rfl))
  refine g_aloadN X5 K (q := 25) d11_24 rfl rfl rfl ?_
  have f3 := ((F_2.other W3 (Or.inl ne_1)).other W5 (Or.inl ne_3))
  refine g_getf X5 K (q := 28) (w82 H) Via.refl e5 f3 d11_25 rfl ?_
  intro T6 X6 e6
  refine g_iloadN X6 K (q := 29) d11_28 rfl rfl ?_
  have f4 := ((A_1.other W3 ne_4).other W5 ne_5)
  refine g_aald X6 K (q := 30) (v := (.ref a4)) e6 f4 rfl (by decide) rfl d11_29 rfl ?_
  refine g_iloadN X6 K (q := 31) d11_30 rfl rfl ?_
  refine g_aloadN X6 K (q := 32) d11_31 rfl rfl rfl ?_
  refine g_getf X6 K (q := 35) (w82 H) Via.refl e6 f3 d11_32 rfl ?_
  intro T7 X7 e7
  refine g_iloadN X7 K (q := 36) d11_35 rfl rfl ?_
  refine g_aald X7 K (q := 37) (v := (.ref a4)) e7 f4 rfl (by decide) rfl d11_36 rfl ?_
  refine g_aloadN X7 K (q := 38) d11_37 rfl rfl rfl ?_
  have f5 := (f1.other W5 (Or.inl ne_3))
  refine g_getf X7 K (q := 41) (w84 H) Via.refl e7 f5 d11_38 rfl ?_
  intro T8 X8 e8
  refine g_iloadN X8 K (q := 42) d11_41 rfl rfl ?_
  refine g_iald X8 K (q := 43) (v := (.int (3 : Int32))) e8 F5 (by decide) rfl d11_42 rfl ?_
  have f6 := ((A_2.other W3 ne_6).other W5 ne_7)
  refine g_iald X8 K (q := 44) (v := (.int p5)) e8 f6 (by decide) rfl d11_43 rfl ?_
  refine g_iast X8 K (q := 45) (vs' := [(.int p2), (.int p3), (.int p4), (.int p5)]) e8 f6 (by decide) (Nat.le_of_ble_eq_true rfl) rfl d11_44 rfl ?_
  intro T9 h9 X9 e9 W9 F9
  have N9 := Fr.snoc X9 N5 ge_3
  have Ol9 := Ol5.wr W9 ge_3
  have Kp9 := Kp5.wr W9 (Or.inl (List.mem_of_getElem? (i := 2) rfl))
  refine g_ret X9 K d11_45 (by decide) (by decide) ?_
  have Kp : Keep h0 T9.heap [a2, a6, a4] := by rw [e9]; exact Kp9
  have f7 := ((F3.other W5 ne_8).other W9 ne_9)
  have f8 := (F5.other W9 ne_10)
  exact ⟨rfl, N9, Kp, (by rw [e9]; exact f7), (by rw [e9]; exact f8), (by rw [e9]; exact F9)⟩
set_option maxRecDepth 65536 in
set_option maxHeartbeats 40000000 in
theorem rm11_37 (l : Launch) {Z : State} {a0 : Array Value} (H : Hyp Z a0) (a1 : Addr) (p1 : Int32) (a2 : Addr) (a3 : Addr) (a4 : Addr) (a5 : Addr) (k1 : ClassId) (p2 : Int32) (p3 : Int32) (p4 : Int32) (p5 : Int32) (k2 : ClassId) (k3 : ClassId) (a6 : Addr) (k4 : ClassId) (h0 : Heap) (Ol : Old Z Z.heap.size h0) (F_1 : Fld Z h0 a1 "ludarium/rules/BrutusWalk" "moved" "[I" (.ref a2)) (F_2 : Fld Z h0 a1 "ludarium/rules/BrutusWalk" "held" "[[I" (.ref a3)) (A_1 : Arv Z h0 a3 k1 (.array .int) (2 : Int32) [(.ref a4), (.ref a5)] .null) (A_2 : Arv Z h0 a5 k2 .int (4 : Int32) [(.int p2), (.int p3), (.int p4), (.int p5)] (.int (0 : Int32))) (A_3 : Arv Z h0 a2 k3 .int (3 : Int32) [(.int (0 : Int32)), (.int (0 : Int32)), (.int (0 : Int32))] (.int (0 : Int32))) (hb_1 : ¬ p1 < 0 ∧ p1 < (3 : Int32)) (ge_1 : Z.heap.size ≤ a2) (F_3 : Fld Z h0 a1 "ludarium/rules/BrutusWalk" "heldCount" "[I" (.ref a6)) (ne_1 : a1 ≠ a2) (A_4 : Arv Z h0 a6 k4 .int (2 : Int32) [(.int (4 : Int32)), (.int (1 : Int32))] (.int (0 : Int32))) (ne_2 : a6 ≠ a2) (ge_2 : Z.heap.size ≤ a6) (ne_3 : a1 ≠ a6) (ne_4 : a3 ≠ a2) (ne_5 : a3 ≠ a6) (ne_6 : a5 ≠ a2) (ne_7 : a5 ≠ a6) (ge_3 : Z.heap.size ≤ a5) (ne_8 : a2 ≠ a6) (ne_9 : a2 ≠ a5) (ne_10 : a6 ≠ a5) :
    Mt l Z (⟨"ludarium/rules/BrutusWalk", "take", "(III)V"⟩ : MethodName) prog_53_method_10_code 4 none [] ({ frames := 0, cells := 0, slots := 0, locals := 0 } : Room) #[(.ref a1), (.int p1), (.int (1 : Int32)), (.int (0 : Int32))] h0 (fun v h L => (v = none ∧ Fr Z.heap.size L ∧ Keep h0 h [a2, a6, a5] ∧ Arv Z h a2 k3 .int (3 : Int32) ([(.int (0 : Int32)), (.int (0 : Int32)), (.int (0 : Int32))].set p1.toNatClampNeg (.int p2)) (.int (0 : Int32)) ∧ Arv Z h a6 k4 .int (2 : Int32) [(.int (4 : Int32)), (.int (0 : Int32))] (.int (0 : Int32)) ∧ Arv Z h a5 k2 .int (4 : Int32) [(.int p2), (.int p3), (.int p4), (.int p5)] (.int (0 : Int32)))) := by
  refine g_body (plainFor_of_name pn_ludarium_rules_BrutusWalk) ?_
  intro p e s m below meth c T0 K X0 e0
  refine g_entry (ef_29 m a1 p1) ?_
  have N0 : Fr Z.heap.size [] := Fr.nil _
  have Ol0 := Ol
  have Kp0 : Keep h0 h0 [a2, a6, a5] := Keep.refl h0 _
  refine g_aloadN X0 K (q := 1) d11_0 rfl rfl rfl ?_
  refine g_getf X0 K (q := 4) (w62 H) Via.refl e0 F_1 d11_1 rfl ?_
  intro T1 X1 e1
  refine g_iloadN X1 K (q := 5) d11_4 rfl rfl ?_
  refine g_aloadN X1 K (q := 6) d11_5 rfl rfl rfl ?_
  refine g_getf X1 K (q := 9) (w82 H) Via.refl e1 F_2 d11_6 rfl ?_
  intro T2 X2 e2
  refine g_iloadN X2 K (q := 10) d11_9 rfl rfl ?_
  refine g_aald X2 K (q := 11) (v := (.ref a5)) e2 A_1 rfl (by decide) rfl d11_10 rfl ?_
  refine g_iloadN X2 K (q := 12) d11_11 rfl rfl ?_
  refine g_iald X2 K (q := 13) (v := (.int p2)) e2 A_2 (by decide) rfl d11_12 rfl ?_
  refine g_iast X2 K (q := 14) (vs' := ([(.int (0 : Int32)), (.int (0 : Int32)), (.int (0 : Int32))].set p1.toNatClampNeg (.int p2))) e2 A_3 hb_1 (own_idx hb_1 rfl) rfl d11_13 rfl ?_
  intro T3 h3 X3 e3 W3 F3
  have N3 := Fr.snoc X3 N0 ge_1
  have Ol3 := Ol0.wr W3 ge_1
  have Kp3 := Kp0.wr W3 (Or.inl (List.mem_of_getElem? (i := 0) rfl))
  refine g_aloadN X3 K (q := 15) d11_14 rfl rfl rfl ?_
  have f1 := (F_3.other W3 (Or.inl ne_1))
  refine g_getf X3 K (q := 18) (w84 H) Via.refl e3 f1 d11_15 rfl ?_
  intro T4 X4 e4
  refine g_iloadN X4 K (q := 19) d11_18 rfl rfl ?_
  refine g_dup2 X4 K (q := 20) d11_19 rfl rfl rfl ?_
  have f2 := (A_4.other W3 ne_2)
  refine g_iald X4 K (q := 21) (v := (.int (1 : Int32))) e4 f2 (by decide) rfl d11_20 rfl ?_
  refine g_iconst X4 K (q := 22) (v := (1 : Int32)) d11_21 (by decide) rfl ?_
  refine g_isub X4 K (q := 23) d11_22 (z := (0 : Int32)) (by decide) rfl ?_
  refine g_iast X4 K (q := 24) (vs' := [(.int (4 : Int32)), (.int (0 : Int32))]) e4 f2 (by decide) (Nat.le_of_ble_eq_true rfl) rfl d11_23 rfl ?_
  intro T5 h5 X5 e5 W5 F5
  have N5 := Fr.snoc X5 N3 ge_2
  have Ol5 := Ol3.wr W5 ge_2
  have Kp5 := Kp3.wr W5 (Or.inl (List.mem_of_getElem? (i := 1) rfl))
  refine g_aloadN X5 K (q := 25) d11_24 rfl rfl rfl ?_
  have f3 := ((F_2.other W3 (Or.inl ne_1)).other W5 (Or.inl ne_3))
  refine g_getf X5 K (q := 28) (w82 H) Via.refl e5 f3 d11_25 rfl ?_
  intro T6 X6 e6
  refine g_iloadN X6 K (q := 29) d11_28 rfl rfl ?_
  have f4 := ((A_1.other W3 ne_4).other W5 ne_5)
  refine g_aald X6 K (q := 30) (v := (.ref a5)) e6 f4 rfl (by decide) rfl d11_29 rfl ?_
  refine g_iloadN X6 K (q := 31) d11_30 rfl rfl ?_
  refine g_aloadN X6 K (q := 32) d11_31 rfl rfl rfl ?_
  refine g_getf X6 K (q := 35) (w82 H) Via.refl e6 f3 d11_32 rfl ?_
  intro T7 X7 e7
  refine g_iloadN X7 K (q := 36) d11_35 rfl rfl ?_
  refine g_aald X7 K (q := 37) (v := (.ref a5)) e7 f4 rfl (by decide) rfl d11_36 rfl ?_
  refine g_aloadN X7 K (q := 38) d11_37 rfl rfl rfl ?_
  have f5 := (f1.other W5 (Or.inl ne_3))
  refine g_getf X7 K (q := 41) (w84 H) Via.refl e7 f5 d11_38 rfl ?_
  intro T8 X8 e8
  refine g_iloadN X8 K (q := 42) d11_41 rfl rfl ?_
  refine g_iald X8 K (q := 43) (v := (.int (0 : Int32))) e8 F5 (by decide) rfl d11_42 rfl ?_
  have f6 := ((A_2.other W3 ne_6).other W5 ne_7)
  refine g_iald X8 K (q := 44) (v := (.int p2)) e8 f6 (by decide) rfl d11_43 rfl ?_
  refine g_iast X8 K (q := 45) (vs' := [(.int p2), (.int p3), (.int p4), (.int p5)]) e8 f6 (by decide) (Nat.le_of_ble_eq_true rfl) rfl d11_44 rfl ?_
  intro T9 h9 X9 e9 W9 F9
  have N9 := Fr.snoc X9 N5 ge_3
  have Ol9 := Ol5.wr W9 ge_3
  have Kp9 := Kp5.wr W9 (Or.inl (List.mem_of_getElem? (i := 2) rfl))
  refine g_ret X9 K d11_45 (by decide) (by decide) ?_
  have Kp : Keep h0 T9.heap [a2, a6, a5] := by rw [e9]; exact Kp9
  have f7 := ((F3.other W5 ne_8).other W9 ne_9)
  have f8 := (F5.other W9 ne_10)
  exact ⟨rfl, N9, Kp, (by rw [e9]; exact f7), (by rw [e9]; exact f8), (by rw [e9]; exact F9)⟩
set_option maxRecDepth 65536 in
set_option maxHeartbeats 40000000 in
theorem rm11_38 (l : Launch) {Z : State} {a0 : Array Value} (H : Hyp Z a0) (a1 : Addr) (p1 : Int32) (a2 : Addr) (a3 : Addr) (a4 : Addr) (a5 : Addr) (k1 : ClassId) (p2 : Int32) (p3 : Int32) (p4 : Int32) (p5 : Int32) (k2 : ClassId) (k3 : ClassId) (a6 : Addr) (k4 : ClassId) (h0 : Heap) (Ol : Old Z Z.heap.size h0) (F_1 : Fld Z h0 a1 "ludarium/rules/BrutusWalk" "moved" "[I" (.ref a2)) (F_2 : Fld Z h0 a1 "ludarium/rules/BrutusWalk" "held" "[[I" (.ref a3)) (A_1 : Arv Z h0 a3 k1 (.array .int) (2 : Int32) [(.ref a4), (.ref a5)] .null) (A_2 : Arv Z h0 a5 k2 .int (4 : Int32) [(.int p2), (.int p3), (.int p4), (.int p5)] (.int (0 : Int32))) (A_3 : Arv Z h0 a2 k3 .int (3 : Int32) [(.int (0 : Int32)), (.int (0 : Int32)), (.int (0 : Int32))] (.int (0 : Int32))) (hb_1 : ¬ p1 < 0 ∧ p1 < (3 : Int32)) (ge_1 : Z.heap.size ≤ a2) (F_3 : Fld Z h0 a1 "ludarium/rules/BrutusWalk" "heldCount" "[I" (.ref a6)) (ne_1 : a1 ≠ a2) (A_4 : Arv Z h0 a6 k4 .int (2 : Int32) [(.int (4 : Int32)), (.int (2 : Int32))] (.int (0 : Int32))) (ne_2 : a6 ≠ a2) (ge_2 : Z.heap.size ≤ a6) (ne_3 : a1 ≠ a6) (ne_4 : a3 ≠ a2) (ne_5 : a3 ≠ a6) (ne_6 : a5 ≠ a2) (ne_7 : a5 ≠ a6) (ge_3 : Z.heap.size ≤ a5) (ne_8 : a2 ≠ a6) (ne_9 : a2 ≠ a5) (ne_10 : a6 ≠ a5) :
    Mt l Z (⟨"ludarium/rules/BrutusWalk", "take", "(III)V"⟩ : MethodName) prog_53_method_10_code 4 none [] ({ frames := 0, cells := 0, slots := 0, locals := 0 } : Room) #[(.ref a1), (.int p1), (.int (1 : Int32)), (.int (0 : Int32))] h0 (fun v h L => (v = none ∧ Fr Z.heap.size L ∧ Keep h0 h [a2, a6, a5] ∧ Arv Z h a2 k3 .int (3 : Int32) ([(.int (0 : Int32)), (.int (0 : Int32)), (.int (0 : Int32))].set p1.toNatClampNeg (.int p2)) (.int (0 : Int32)) ∧ Arv Z h a6 k4 .int (2 : Int32) [(.int (4 : Int32)), (.int (1 : Int32))] (.int (0 : Int32)) ∧ Arv Z h a5 k2 .int (4 : Int32) [(.int p3), (.int p3), (.int p4), (.int p5)] (.int (0 : Int32)))) := by
  refine g_body (plainFor_of_name pn_ludarium_rules_BrutusWalk) ?_
  intro p e s m below meth c T0 K X0 e0
  refine g_entry (ef_29 m a1 p1) ?_
  have N0 : Fr Z.heap.size [] := Fr.nil _
  have Ol0 := Ol
  have Kp0 : Keep h0 h0 [a2, a6, a5] := Keep.refl h0 _
  refine g_aloadN X0 K (q := 1) d11_0 rfl rfl rfl ?_
  refine g_getf X0 K (q := 4) (w62 H) Via.refl e0 F_1 d11_1 rfl ?_
  intro T1 X1 e1
  refine g_iloadN X1 K (q := 5) d11_4 rfl rfl ?_
  refine g_aloadN X1 K (q := 6) d11_5 rfl rfl rfl ?_
  refine g_getf X1 K (q := 9) (w82 H) Via.refl e1 F_2 d11_6 rfl ?_
  intro T2 X2 e2
  refine g_iloadN X2 K (q := 10) d11_9 rfl rfl ?_
  refine g_aald X2 K (q := 11) (v := (.ref a5)) e2 A_1 rfl (by decide) rfl d11_10 rfl ?_
  refine g_iloadN X2 K (q := 12) d11_11 rfl rfl ?_
  refine g_iald X2 K (q := 13) (v := (.int p2)) e2 A_2 (by decide) rfl d11_12 rfl ?_
  refine g_iast X2 K (q := 14) (vs' := ([(.int (0 : Int32)), (.int (0 : Int32)), (.int (0 : Int32))].set p1.toNatClampNeg (.int p2))) e2 A_3 hb_1 (own_idx hb_1 rfl) rfl d11_13 rfl ?_
  intro T3 h3 X3 e3 W3 F3
  have N3 := Fr.snoc X3 N0 ge_1
  have Ol3 := Ol0.wr W3 ge_1
  have Kp3 := Kp0.wr W3 (Or.inl (List.mem_of_getElem? (i := 0) rfl))
  refine g_aloadN X3 K (q := 15) d11_14 rfl rfl rfl ?_
  have f1 := (F_3.other W3 (Or.inl ne_1))
  refine g_getf X3 K (q := 18) (w84 H) Via.refl e3 f1 d11_15 rfl ?_
  intro T4 X4 e4
  refine g_iloadN X4 K (q := 19) d11_18 rfl rfl ?_
  refine g_dup2 X4 K (q := 20) d11_19 rfl rfl rfl ?_
  have f2 := (A_4.other W3 ne_2)
  refine g_iald X4 K (q := 21) (v := (.int (2 : Int32))) e4 f2 (by decide) rfl d11_20 rfl ?_
  refine g_iconst X4 K (q := 22) (v := (1 : Int32)) d11_21 (by decide) rfl ?_
  refine g_isub X4 K (q := 23) d11_22 (z := (1 : Int32)) (by decide) rfl ?_
  refine g_iast X4 K (q := 24) (vs' := [(.int (4 : Int32)), (.int (1 : Int32))]) e4 f2 (by decide) (Nat.le_of_ble_eq_true rfl) rfl d11_23 rfl ?_
  intro T5 h5 X5 e5 W5 F5
  have N5 := Fr.snoc X5 N3 ge_2
  have Ol5 := Ol3.wr W5 ge_2
  have Kp5 := Kp3.wr W5 (Or.inl (List.mem_of_getElem? (i := 1) rfl))
  refine g_aloadN X5 K (q := 25) d11_24 rfl rfl rfl ?_
  have f3 := ((F_2.other W3 (Or.inl ne_1)).other W5 (Or.inl ne_3))
  refine g_getf X5 K (q := 28) (w82 H) Via.refl e5 f3 d11_25 rfl ?_
  intro T6 X6 e6
  refine g_iloadN X6 K (q := 29) d11_28 rfl rfl ?_
  have f4 := ((A_1.other W3 ne_4).other W5 ne_5)
  refine g_aald X6 K (q := 30) (v := (.ref a5)) e6 f4 rfl (by decide) rfl d11_29 rfl ?_
  refine g_iloadN X6 K (q := 31) d11_30 rfl rfl ?_
  refine g_aloadN X6 K (q := 32) d11_31 rfl rfl rfl ?_
  refine g_getf X6 K (q := 35) (w82 H) Via.refl e6 f3 d11_32 rfl ?_
  intro T7 X7 e7
  refine g_iloadN X7 K (q := 36) d11_35 rfl rfl ?_
  refine g_aald X7 K (q := 37) (v := (.ref a5)) e7 f4 rfl (by decide) rfl d11_36 rfl ?_
  refine g_aloadN X7 K (q := 38) d11_37 rfl rfl rfl ?_
  have f5 := (f1.other W5 (Or.inl ne_3))
  refine g_getf X7 K (q := 41) (w84 H) Via.refl e7 f5 d11_38 rfl ?_
  intro T8 X8 e8
  refine g_iloadN X8 K (q := 42) d11_41 rfl rfl ?_
  refine g_iald X8 K (q := 43) (v := (.int (1 : Int32))) e8 F5 (by decide) rfl d11_42 rfl ?_
  have f6 := ((A_2.other W3 ne_6).other W5 ne_7)
  refine g_iald X8 K (q := 44) (v := (.int p3)) e8 f6 (by decide) rfl d11_43 rfl ?_
  refine g_iast X8 K (q := 45) (vs' := [(.int p3), (.int p3), (.int p4), (.int p5)]) e8 f6 (by decide) (Nat.le_of_ble_eq_true rfl) rfl d11_44 rfl ?_
  intro T9 h9 X9 e9 W9 F9
  have N9 := Fr.snoc X9 N5 ge_3
  have Ol9 := Ol5.wr W9 ge_3
  have Kp9 := Kp5.wr W9 (Or.inl (List.mem_of_getElem? (i := 2) rfl))
  refine g_ret X9 K d11_45 (by decide) (by decide) ?_
  have Kp : Keep h0 T9.heap [a2, a6, a5] := by rw [e9]; exact Kp9
  have f7 := ((F3.other W5 ne_8).other W9 ne_9)
  have f8 := (F5.other W9 ne_10)
  exact ⟨rfl, N9, Kp, (by rw [e9]; exact f7), (by rw [e9]; exact f8), (by rw [e9]; exact F9)⟩
set_option maxRecDepth 65536 in
set_option maxHeartbeats 40000000 in
theorem rm11_39 (l : Launch) {Z : State} {a0 : Array Value} (H : Hyp Z a0) (a1 : Addr) (p1 : Int32) (a2 : Addr) (a3 : Addr) (a4 : Addr) (a5 : Addr) (k1 : ClassId) (p2 : Int32) (p3 : Int32) (p4 : Int32) (p5 : Int32) (k2 : ClassId) (k3 : ClassId) (a6 : Addr) (k4 : ClassId) (h0 : Heap) (Ol : Old Z Z.heap.size h0) (F_1 : Fld Z h0 a1 "ludarium/rules/BrutusWalk" "moved" "[I" (.ref a2)) (F_2 : Fld Z h0 a1 "ludarium/rules/BrutusWalk" "held" "[[I" (.ref a3)) (A_1 : Arv Z h0 a3 k1 (.array .int) (2 : Int32) [(.ref a4), (.ref a5)] .null) (A_2 : Arv Z h0 a5 k2 .int (4 : Int32) [(.int p2), (.int p3), (.int p4), (.int p5)] (.int (0 : Int32))) (A_3 : Arv Z h0 a2 k3 .int (3 : Int32) [(.int (0 : Int32)), (.int (0 : Int32)), (.int (0 : Int32))] (.int (0 : Int32))) (hb_1 : ¬ p1 < 0 ∧ p1 < (3 : Int32)) (ge_1 : Z.heap.size ≤ a2) (F_3 : Fld Z h0 a1 "ludarium/rules/BrutusWalk" "heldCount" "[I" (.ref a6)) (ne_1 : a1 ≠ a2) (A_4 : Arv Z h0 a6 k4 .int (2 : Int32) [(.int (4 : Int32)), (.int (2 : Int32))] (.int (0 : Int32))) (ne_2 : a6 ≠ a2) (ge_2 : Z.heap.size ≤ a6) (ne_3 : a1 ≠ a6) (ne_4 : a3 ≠ a2) (ne_5 : a3 ≠ a6) (ne_6 : a5 ≠ a2) (ne_7 : a5 ≠ a6) (ge_3 : Z.heap.size ≤ a5) (ne_8 : a2 ≠ a6) (ne_9 : a2 ≠ a5) (ne_10 : a6 ≠ a5) :
    Mt l Z (⟨"ludarium/rules/BrutusWalk", "take", "(III)V"⟩ : MethodName) prog_53_method_10_code 4 none [] ({ frames := 0, cells := 0, slots := 0, locals := 0 } : Room) #[(.ref a1), (.int p1), (.int (1 : Int32)), (.int (1 : Int32))] h0 (fun v h L => (v = none ∧ Fr Z.heap.size L ∧ Keep h0 h [a2, a6, a5] ∧ Arv Z h a2 k3 .int (3 : Int32) ([(.int (0 : Int32)), (.int (0 : Int32)), (.int (0 : Int32))].set p1.toNatClampNeg (.int p3)) (.int (0 : Int32)) ∧ Arv Z h a6 k4 .int (2 : Int32) [(.int (4 : Int32)), (.int (1 : Int32))] (.int (0 : Int32)) ∧ Arv Z h a5 k2 .int (4 : Int32) [(.int p2), (.int p3), (.int p4), (.int p5)] (.int (0 : Int32)))) := by
  refine g_body (plainFor_of_name pn_ludarium_rules_BrutusWalk) ?_
  intro p e s m below meth c T0 K X0 e0
  refine g_entry (ef_30 m a1 p1) ?_
  have N0 : Fr Z.heap.size [] := Fr.nil _
  have Ol0 := Ol
  have Kp0 : Keep h0 h0 [a2, a6, a5] := Keep.refl h0 _
  refine g_aloadN X0 K (q := 1) d11_0 rfl rfl rfl ?_
  refine g_getf X0 K (q := 4) (w62 H) Via.refl e0 F_1 d11_1 rfl ?_
  intro T1 X1 e1
  refine g_iloadN X1 K (q := 5) d11_4 rfl rfl ?_
  refine g_aloadN X1 K (q := 6) d11_5 rfl rfl rfl ?_
  refine g_getf X1 K (q := 9) (w82 H) Via.refl e1 F_2 d11_6 rfl ?_
  intro T2 X2 e2
  refine g_iloadN X2 K (q := 10) d11_9 rfl rfl ?_
  refine g_aald X2 K (q := 11) (v := (.ref a5)) e2 A_1 rfl (by decide) rfl d11_10 rfl ?_
  refine g_iloadN X2 K (q := 12) d11_11 rfl rfl ?_
  refine g_iald X2 K (q := 13) (v := (.int p3)) e2 A_2 (by decide) rfl d11_12 rfl ?_
  refine g_iast X2 K (q := 14) (vs' := ([(.int (0 : Int32)), (.int (0 : Int32)), (.int (0 : Int32))].set p1.toNatClampNeg (.int p3))) e2 A_3 hb_1 (own_idx hb_1 rfl) rfl d11_13 rfl ?_
  intro T3 h3 X3 e3 W3 F3
  have N3 := Fr.snoc X3 N0 ge_1
  have Ol3 := Ol0.wr W3 ge_1
  have Kp3 := Kp0.wr W3 (Or.inl (List.mem_of_getElem? (i := 0) rfl))
  refine g_aloadN X3 K (q := 15) d11_14 rfl rfl rfl ?_
  have f1 := (F_3.other W3 (Or.inl ne_1))
  refine g_getf X3 K (q := 18) (w84 H) Via.refl e3 f1 d11_15 rfl ?_
  intro T4 X4 e4
  refine g_iloadN X4 K (q := 19) d11_18 rfl rfl ?_
  refine g_dup2 X4 K (q := 20) d11_19 rfl rfl rfl ?_
  have f2 := (A_4.other W3 ne_2)
  refine g_iald X4 K (q := 21) (v := (.int (2 : Int32))) e4 f2 (by decide) rfl d11_20 rfl ?_
  refine g_iconst X4 K (q := 22) (v := (1 : Int32)) d11_21 (by decide) rfl ?_
  refine g_isub X4 K (q := 23) d11_22 (z := (1 : Int32)) (by decide) rfl ?_
  refine g_iast X4 K (q := 24) (vs' := [(.int (4 : Int32)), (.int (1 : Int32))]) e4 f2 (by decide) (Nat.le_of_ble_eq_true rfl) rfl d11_23 rfl ?_
  intro T5 h5 X5 e5 W5 F5
  have N5 := Fr.snoc X5 N3 ge_2
  have Ol5 := Ol3.wr W5 ge_2
  have Kp5 := Kp3.wr W5 (Or.inl (List.mem_of_getElem? (i := 1) rfl))
  refine g_aloadN X5 K (q := 25) d11_24 rfl rfl rfl ?_
  have f3 := ((F_2.other W3 (Or.inl ne_1)).other W5 (Or.inl ne_3))
  refine g_getf X5 K (q := 28) (w82 H) Via.refl e5 f3 d11_25 rfl ?_
  intro T6 X6 e6
  refine g_iloadN X6 K (q := 29) d11_28 rfl rfl ?_
  have f4 := ((A_1.other W3 ne_4).other W5 ne_5)
  refine g_aald X6 K (q := 30) (v := (.ref a5)) e6 f4 rfl (by decide) rfl d11_29 rfl ?_
  refine g_iloadN X6 K (q := 31) d11_30 rfl rfl ?_
  refine g_aloadN X6 K (q := 32) d11_31 rfl rfl rfl ?_
  refine g_getf X6 K (q := 35) (w82 H) Via.refl e6 f3 d11_32 rfl ?_
  intro T7 X7 e7
  refine g_iloadN X7 K (q := 36) d11_35 rfl rfl ?_
  refine g_aald X7 K (q := 37) (v := (.ref a5)) e7 f4 rfl (by decide) rfl d11_36 rfl ?_
  refine g_aloadN X7 K (q := 38) d11_37 rfl rfl rfl ?_
  have f5 := (f1.other W5 (Or.inl ne_3))
  refine g_getf X7 K (q := 41) (w84 H) Via.refl e7 f5 d11_38 rfl ?_
  intro T8 X8 e8
  refine g_iloadN X8 K (q := 42) d11_41 rfl rfl ?_
  refine g_iald X8 K (q := 43) (v := (.int (1 : Int32))) e8 F5 (by decide) rfl d11_42 rfl ?_
  have f6 := ((A_2.other W3 ne_6).other W5 ne_7)
  refine g_iald X8 K (q := 44) (v := (.int p3)) e8 f6 (by decide) rfl d11_43 rfl ?_
  refine g_iast X8 K (q := 45) (vs' := [(.int p2), (.int p3), (.int p4), (.int p5)]) e8 f6 (by decide) (Nat.le_of_ble_eq_true rfl) rfl d11_44 rfl ?_
  intro T9 h9 X9 e9 W9 F9
  have N9 := Fr.snoc X9 N5 ge_3
  have Ol9 := Ol5.wr W9 ge_3
  have Kp9 := Kp5.wr W9 (Or.inl (List.mem_of_getElem? (i := 2) rfl))
  refine g_ret X9 K d11_45 (by decide) (by decide) ?_
  have Kp : Keep h0 T9.heap [a2, a6, a5] := by rw [e9]; exact Kp9
  have f7 := ((F3.other W5 ne_8).other W9 ne_9)
  have f8 := (F5.other W9 ne_10)
  exact ⟨rfl, N9, Kp, (by rw [e9]; exact f7), (by rw [e9]; exact f8), (by rw [e9]; exact F9)⟩
set_option maxRecDepth 65536 in
set_option maxHeartbeats 40000000 in
theorem rm11_40 (l : Launch) {Z : State} {a0 : Array Value} (H : Hyp Z a0) (a1 : Addr) (p1 : Int32) (a2 : Addr) (a3 : Addr) (a4 : Addr) (a5 : Addr) (k1 : ClassId) (p2 : Int32) (p3 : Int32) (p4 : Int32) (p5 : Int32) (k2 : ClassId) (k3 : ClassId) (a6 : Addr) (k4 : ClassId) (h0 : Heap) (Ol : Old Z Z.heap.size h0) (F_1 : Fld Z h0 a1 "ludarium/rules/BrutusWalk" "moved" "[I" (.ref a2)) (F_2 : Fld Z h0 a1 "ludarium/rules/BrutusWalk" "held" "[[I" (.ref a3)) (A_1 : Arv Z h0 a3 k1 (.array .int) (2 : Int32) [(.ref a4), (.ref a5)] .null) (A_2 : Arv Z h0 a5 k2 .int (4 : Int32) [(.int p2), (.int p3), (.int p4), (.int p5)] (.int (0 : Int32))) (A_3 : Arv Z h0 a2 k3 .int (3 : Int32) [(.int (0 : Int32)), (.int (0 : Int32)), (.int (0 : Int32))] (.int (0 : Int32))) (hb_1 : ¬ p1 < 0 ∧ p1 < (3 : Int32)) (ge_1 : Z.heap.size ≤ a2) (F_3 : Fld Z h0 a1 "ludarium/rules/BrutusWalk" "heldCount" "[I" (.ref a6)) (ne_1 : a1 ≠ a2) (A_4 : Arv Z h0 a6 k4 .int (2 : Int32) [(.int (4 : Int32)), (.int (3 : Int32))] (.int (0 : Int32))) (ne_2 : a6 ≠ a2) (ge_2 : Z.heap.size ≤ a6) (ne_3 : a1 ≠ a6) (ne_4 : a3 ≠ a2) (ne_5 : a3 ≠ a6) (ne_6 : a5 ≠ a2) (ne_7 : a5 ≠ a6) (ge_3 : Z.heap.size ≤ a5) (ne_8 : a2 ≠ a6) (ne_9 : a2 ≠ a5) (ne_10 : a6 ≠ a5) :
    Mt l Z (⟨"ludarium/rules/BrutusWalk", "take", "(III)V"⟩ : MethodName) prog_53_method_10_code 4 none [] ({ frames := 0, cells := 0, slots := 0, locals := 0 } : Room) #[(.ref a1), (.int p1), (.int (1 : Int32)), (.int (0 : Int32))] h0 (fun v h L => (v = none ∧ Fr Z.heap.size L ∧ Keep h0 h [a2, a6, a5] ∧ Arv Z h a2 k3 .int (3 : Int32) ([(.int (0 : Int32)), (.int (0 : Int32)), (.int (0 : Int32))].set p1.toNatClampNeg (.int p2)) (.int (0 : Int32)) ∧ Arv Z h a6 k4 .int (2 : Int32) [(.int (4 : Int32)), (.int (2 : Int32))] (.int (0 : Int32)) ∧ Arv Z h a5 k2 .int (4 : Int32) [(.int p4), (.int p3), (.int p4), (.int p5)] (.int (0 : Int32)))) := by
  refine g_body (plainFor_of_name pn_ludarium_rules_BrutusWalk) ?_
  intro p e s m below meth c T0 K X0 e0
  refine g_entry (ef_29 m a1 p1) ?_
  have N0 : Fr Z.heap.size [] := Fr.nil _
  have Ol0 := Ol
  have Kp0 : Keep h0 h0 [a2, a6, a5] := Keep.refl h0 _
  refine g_aloadN X0 K (q := 1) d11_0 rfl rfl rfl ?_
  refine g_getf X0 K (q := 4) (w62 H) Via.refl e0 F_1 d11_1 rfl ?_
  intro T1 X1 e1
  refine g_iloadN X1 K (q := 5) d11_4 rfl rfl ?_
  refine g_aloadN X1 K (q := 6) d11_5 rfl rfl rfl ?_
  refine g_getf X1 K (q := 9) (w82 H) Via.refl e1 F_2 d11_6 rfl ?_
  intro T2 X2 e2
  refine g_iloadN X2 K (q := 10) d11_9 rfl rfl ?_
  refine g_aald X2 K (q := 11) (v := (.ref a5)) e2 A_1 rfl (by decide) rfl d11_10 rfl ?_
  refine g_iloadN X2 K (q := 12) d11_11 rfl rfl ?_
  refine g_iald X2 K (q := 13) (v := (.int p2)) e2 A_2 (by decide) rfl d11_12 rfl ?_
  refine g_iast X2 K (q := 14) (vs' := ([(.int (0 : Int32)), (.int (0 : Int32)), (.int (0 : Int32))].set p1.toNatClampNeg (.int p2))) e2 A_3 hb_1 (own_idx hb_1 rfl) rfl d11_13 rfl ?_
  intro T3 h3 X3 e3 W3 F3
  have N3 := Fr.snoc X3 N0 ge_1
  have Ol3 := Ol0.wr W3 ge_1
  have Kp3 := Kp0.wr W3 (Or.inl (List.mem_of_getElem? (i := 0) rfl))
  refine g_aloadN X3 K (q := 15) d11_14 rfl rfl rfl ?_
  have f1 := (F_3.other W3 (Or.inl ne_1))
  refine g_getf X3 K (q := 18) (w84 H) Via.refl e3 f1 d11_15 rfl ?_
  intro T4 X4 e4
  refine g_iloadN X4 K (q := 19) d11_18 rfl rfl ?_
  refine g_dup2 X4 K (q := 20) d11_19 rfl rfl rfl ?_
  have f2 := (A_4.other W3 ne_2)
  refine g_iald X4 K (q := 21) (v := (.int (3 : Int32))) e4 f2 (by decide) rfl d11_20 rfl ?_
  refine g_iconst X4 K (q := 22) (v := (1 : Int32)) d11_21 (by decide) rfl ?_
  refine g_isub X4 K (q := 23) d11_22 (z := (2 : Int32)) (by decide) rfl ?_
  refine g_iast X4 K (q := 24) (vs' := [(.int (4 : Int32)), (.int (2 : Int32))]) e4 f2 (by decide) (Nat.le_of_ble_eq_true rfl) rfl d11_23 rfl ?_
  intro T5 h5 X5 e5 W5 F5
  have N5 := Fr.snoc X5 N3 ge_2
  have Ol5 := Ol3.wr W5 ge_2
  have Kp5 := Kp3.wr W5 (Or.inl (List.mem_of_getElem? (i := 1) rfl))
  refine g_aloadN X5 K (q := 25) d11_24 rfl rfl rfl ?_
  have f3 := ((F_2.other W3 (Or.inl ne_1)).other W5 (Or.inl ne_3))
  refine g_getf X5 K (q := 28) (w82 H) Via.refl e5 f3 d11_25 rfl ?_
  intro T6 X6 e6
  refine g_iloadN X6 K (q := 29) d11_28 rfl rfl ?_
  have f4 := ((A_1.other W3 ne_4).other W5 ne_5)
  refine g_aald X6 K (q := 30) (v := (.ref a5)) e6 f4 rfl (by decide) rfl d11_29 rfl ?_
  refine g_iloadN X6 K (q := 31) d11_30 rfl rfl ?_
  refine g_aloadN X6 K (q := 32) d11_31 rfl rfl rfl ?_
  refine g_getf X6 K (q := 35) (w82 H) Via.refl e6 f3 d11_32 rfl ?_
  intro T7 X7 e7
  refine g_iloadN X7 K (q := 36) d11_35 rfl rfl ?_
  refine g_aald X7 K (q := 37) (v := (.ref a5)) e7 f4 rfl (by decide) rfl d11_36 rfl ?_
  refine g_aloadN X7 K (q := 38) d11_37 rfl rfl rfl ?_
  have f5 := (f1.other W5 (Or.inl ne_3))
  refine g_getf X7 K (q := 41) (w84 H) Via.refl e7 f5 d11_38 rfl ?_
  intro T8 X8 e8
  refine g_iloadN X8 K (q := 42) d11_41 rfl rfl ?_
  refine g_iald X8 K (q := 43) (v := (.int (2 : Int32))) e8 F5 (by decide) rfl d11_42 rfl ?_
  have f6 := ((A_2.other W3 ne_6).other W5 ne_7)
  refine g_iald X8 K (q := 44) (v := (.int p4)) e8 f6 (by decide) rfl d11_43 rfl ?_
  refine g_iast X8 K (q := 45) (vs' := [(.int p4), (.int p3), (.int p4), (.int p5)]) e8 f6 (by decide) (Nat.le_of_ble_eq_true rfl) rfl d11_44 rfl ?_
  intro T9 h9 X9 e9 W9 F9
  have N9 := Fr.snoc X9 N5 ge_3
  have Ol9 := Ol5.wr W9 ge_3
  have Kp9 := Kp5.wr W9 (Or.inl (List.mem_of_getElem? (i := 2) rfl))
  refine g_ret X9 K d11_45 (by decide) (by decide) ?_
  have Kp : Keep h0 T9.heap [a2, a6, a5] := by rw [e9]; exact Kp9
  have f7 := ((F3.other W5 ne_8).other W9 ne_9)
  have f8 := (F5.other W9 ne_10)
  exact ⟨rfl, N9, Kp, (by rw [e9]; exact f7), (by rw [e9]; exact f8), (by rw [e9]; exact F9)⟩
set_option maxRecDepth 65536 in
set_option maxHeartbeats 40000000 in
theorem rm11_41 (l : Launch) {Z : State} {a0 : Array Value} (H : Hyp Z a0) (a1 : Addr) (p1 : Int32) (a2 : Addr) (a3 : Addr) (a4 : Addr) (a5 : Addr) (k1 : ClassId) (p2 : Int32) (p3 : Int32) (p4 : Int32) (p5 : Int32) (k2 : ClassId) (k3 : ClassId) (a6 : Addr) (k4 : ClassId) (h0 : Heap) (Ol : Old Z Z.heap.size h0) (F_1 : Fld Z h0 a1 "ludarium/rules/BrutusWalk" "moved" "[I" (.ref a2)) (F_2 : Fld Z h0 a1 "ludarium/rules/BrutusWalk" "held" "[[I" (.ref a3)) (A_1 : Arv Z h0 a3 k1 (.array .int) (2 : Int32) [(.ref a4), (.ref a5)] .null) (A_2 : Arv Z h0 a5 k2 .int (4 : Int32) [(.int p2), (.int p3), (.int p4), (.int p5)] (.int (0 : Int32))) (A_3 : Arv Z h0 a2 k3 .int (3 : Int32) [(.int (0 : Int32)), (.int (0 : Int32)), (.int (0 : Int32))] (.int (0 : Int32))) (hb_1 : ¬ p1 < 0 ∧ p1 < (3 : Int32)) (ge_1 : Z.heap.size ≤ a2) (F_3 : Fld Z h0 a1 "ludarium/rules/BrutusWalk" "heldCount" "[I" (.ref a6)) (ne_1 : a1 ≠ a2) (A_4 : Arv Z h0 a6 k4 .int (2 : Int32) [(.int (4 : Int32)), (.int (3 : Int32))] (.int (0 : Int32))) (ne_2 : a6 ≠ a2) (ge_2 : Z.heap.size ≤ a6) (ne_3 : a1 ≠ a6) (ne_4 : a3 ≠ a2) (ne_5 : a3 ≠ a6) (ne_6 : a5 ≠ a2) (ne_7 : a5 ≠ a6) (ge_3 : Z.heap.size ≤ a5) (ne_8 : a2 ≠ a6) (ne_9 : a2 ≠ a5) (ne_10 : a6 ≠ a5) :
    Mt l Z (⟨"ludarium/rules/BrutusWalk", "take", "(III)V"⟩ : MethodName) prog_53_method_10_code 4 none [] ({ frames := 0, cells := 0, slots := 0, locals := 0 } : Room) #[(.ref a1), (.int p1), (.int (1 : Int32)), (.int (1 : Int32))] h0 (fun v h L => (v = none ∧ Fr Z.heap.size L ∧ Keep h0 h [a2, a6, a5] ∧ Arv Z h a2 k3 .int (3 : Int32) ([(.int (0 : Int32)), (.int (0 : Int32)), (.int (0 : Int32))].set p1.toNatClampNeg (.int p3)) (.int (0 : Int32)) ∧ Arv Z h a6 k4 .int (2 : Int32) [(.int (4 : Int32)), (.int (2 : Int32))] (.int (0 : Int32)) ∧ Arv Z h a5 k2 .int (4 : Int32) [(.int p2), (.int p4), (.int p4), (.int p5)] (.int (0 : Int32)))) := by
  refine g_body (plainFor_of_name pn_ludarium_rules_BrutusWalk) ?_
  intro p e s m below meth c T0 K X0 e0
  refine g_entry (ef_30 m a1 p1) ?_
  have N0 : Fr Z.heap.size [] := Fr.nil _
  have Ol0 := Ol
  have Kp0 : Keep h0 h0 [a2, a6, a5] := Keep.refl h0 _
  refine g_aloadN X0 K (q := 1) d11_0 rfl rfl rfl ?_
  refine g_getf X0 K (q := 4) (w62 H) Via.refl e0 F_1 d11_1 rfl ?_
  intro T1 X1 e1
  refine g_iloadN X1 K (q := 5) d11_4 rfl rfl ?_
  refine g_aloadN X1 K (q := 6) d11_5 rfl rfl rfl ?_
  refine g_getf X1 K (q := 9) (w82 H) Via.refl e1 F_2 d11_6 rfl ?_
  intro T2 X2 e2
  refine g_iloadN X2 K (q := 10) d11_9 rfl rfl ?_
  refine g_aald X2 K (q := 11) (v := (.ref a5)) e2 A_1 rfl (by decide) rfl d11_10 rfl ?_
  refine g_iloadN X2 K (q := 12) d11_11 rfl rfl ?_
  refine g_iald X2 K (q := 13) (v := (.int p3)) e2 A_2 (by decide) rfl d11_12 rfl ?_
  refine g_iast X2 K (q := 14) (vs' := ([(.int (0 : Int32)), (.int (0 : Int32)), (.int (0 : Int32))].set p1.toNatClampNeg (.int p3))) e2 A_3 hb_1 (own_idx hb_1 rfl) rfl d11_13 rfl ?_
  intro T3 h3 X3 e3 W3 F3
  have N3 := Fr.snoc X3 N0 ge_1
  have Ol3 := Ol0.wr W3 ge_1
  have Kp3 := Kp0.wr W3 (Or.inl (List.mem_of_getElem? (i := 0) rfl))
  refine g_aloadN X3 K (q := 15) d11_14 rfl rfl rfl ?_
  have f1 := (F_3.other W3 (Or.inl ne_1))
  refine g_getf X3 K (q := 18) (w84 H) Via.refl e3 f1 d11_15 rfl ?_
  intro T4 X4 e4
  refine g_iloadN X4 K (q := 19) d11_18 rfl rfl ?_
  refine g_dup2 X4 K (q := 20) d11_19 rfl rfl rfl ?_
  have f2 := (A_4.other W3 ne_2)
  refine g_iald X4 K (q := 21) (v := (.int (3 : Int32))) e4 f2 (by decide) rfl d11_20 rfl ?_
  refine g_iconst X4 K (q := 22) (v := (1 : Int32)) d11_21 (by decide) rfl ?_
  refine g_isub X4 K (q := 23) d11_22 (z := (2 : Int32)) (by decide) rfl ?_
  refine g_iast X4 K (q := 24) (vs' := [(.int (4 : Int32)), (.int (2 : Int32))]) e4 f2 (by decide) (Nat.le_of_ble_eq_true rfl) rfl d11_23 rfl ?_
  intro T5 h5 X5 e5 W5 F5
  have N5 := Fr.snoc X5 N3 ge_2
  have Ol5 := Ol3.wr W5 ge_2
  have Kp5 := Kp3.wr W5 (Or.inl (List.mem_of_getElem? (i := 1) rfl))
  refine g_aloadN X5 K (q := 25) d11_24 rfl rfl rfl ?_
  have f3 := ((F_2.other W3 (Or.inl ne_1)).other W5 (Or.inl ne_3))
  refine g_getf X5 K (q := 28) (w82 H) Via.refl e5 f3 d11_25 rfl ?_
  intro T6 X6 e6
  refine g_iloadN X6 K (q := 29) d11_28 rfl rfl ?_
  have f4 := ((A_1.other W3 ne_4).other W5 ne_5)
  refine g_aald X6 K (q := 30) (v := (.ref a5)) e6 f4 rfl (by decide) rfl d11_29 rfl ?_
  refine g_iloadN X6 K (q := 31) d11_30 rfl rfl ?_
  refine g_aloadN X6 K (q := 32) d11_31 rfl rfl rfl ?_
  refine g_getf X6 K (q := 35) (w82 H) Via.refl e6 f3 d11_32 rfl ?_
  intro T7 X7 e7
  refine g_iloadN X7 K (q := 36) d11_35 rfl rfl ?_
  refine g_aald X7 K (q := 37) (v := (.ref a5)) e7 f4 rfl (by decide) rfl d11_36 rfl ?_
  refine g_aloadN X7 K (q := 38) d11_37 rfl rfl rfl ?_
  have f5 := (f1.other W5 (Or.inl ne_3))
  refine g_getf X7 K (q := 41) (w84 H) Via.refl e7 f5 d11_38 rfl ?_
  intro T8 X8 e8
  refine g_iloadN X8 K (q := 42) d11_41 rfl rfl ?_
  refine g_iald X8 K (q := 43) (v := (.int (2 : Int32))) e8 F5 (by decide) rfl d11_42 rfl ?_
  have f6 := ((A_2.other W3 ne_6).other W5 ne_7)
  refine g_iald X8 K (q := 44) (v := (.int p4)) e8 f6 (by decide) rfl d11_43 rfl ?_
  refine g_iast X8 K (q := 45) (vs' := [(.int p2), (.int p4), (.int p4), (.int p5)]) e8 f6 (by decide) (Nat.le_of_ble_eq_true rfl) rfl d11_44 rfl ?_
  intro T9 h9 X9 e9 W9 F9
  have N9 := Fr.snoc X9 N5 ge_3
  have Ol9 := Ol5.wr W9 ge_3
  have Kp9 := Kp5.wr W9 (Or.inl (List.mem_of_getElem? (i := 2) rfl))
  refine g_ret X9 K d11_45 (by decide) (by decide) ?_
  have Kp : Keep h0 T9.heap [a2, a6, a5] := by rw [e9]; exact Kp9
  have f7 := ((F3.other W5 ne_8).other W9 ne_9)
  have f8 := (F5.other W9 ne_10)
  exact ⟨rfl, N9, Kp, (by rw [e9]; exact f7), (by rw [e9]; exact f8), (by rw [e9]; exact F9)⟩
set_option maxRecDepth 65536 in
set_option maxHeartbeats 40000000 in
theorem rm11_42 (l : Launch) {Z : State} {a0 : Array Value} (H : Hyp Z a0) (a1 : Addr) (p1 : Int32) (a2 : Addr) (a3 : Addr) (a4 : Addr) (a5 : Addr) (k1 : ClassId) (p2 : Int32) (p3 : Int32) (p4 : Int32) (p5 : Int32) (k2 : ClassId) (k3 : ClassId) (a6 : Addr) (k4 : ClassId) (h0 : Heap) (Ol : Old Z Z.heap.size h0) (F_1 : Fld Z h0 a1 "ludarium/rules/BrutusWalk" "moved" "[I" (.ref a2)) (F_2 : Fld Z h0 a1 "ludarium/rules/BrutusWalk" "held" "[[I" (.ref a3)) (A_1 : Arv Z h0 a3 k1 (.array .int) (2 : Int32) [(.ref a4), (.ref a5)] .null) (A_2 : Arv Z h0 a5 k2 .int (4 : Int32) [(.int p2), (.int p3), (.int p4), (.int p5)] (.int (0 : Int32))) (A_3 : Arv Z h0 a2 k3 .int (3 : Int32) [(.int (0 : Int32)), (.int (0 : Int32)), (.int (0 : Int32))] (.int (0 : Int32))) (hb_1 : ¬ p1 < 0 ∧ p1 < (3 : Int32)) (ge_1 : Z.heap.size ≤ a2) (F_3 : Fld Z h0 a1 "ludarium/rules/BrutusWalk" "heldCount" "[I" (.ref a6)) (ne_1 : a1 ≠ a2) (A_4 : Arv Z h0 a6 k4 .int (2 : Int32) [(.int (4 : Int32)), (.int (3 : Int32))] (.int (0 : Int32))) (ne_2 : a6 ≠ a2) (ge_2 : Z.heap.size ≤ a6) (ne_3 : a1 ≠ a6) (ne_4 : a3 ≠ a2) (ne_5 : a3 ≠ a6) (ne_6 : a5 ≠ a2) (ne_7 : a5 ≠ a6) (ge_3 : Z.heap.size ≤ a5) (ne_8 : a2 ≠ a6) (ne_9 : a2 ≠ a5) (ne_10 : a6 ≠ a5) :
    Mt l Z (⟨"ludarium/rules/BrutusWalk", "take", "(III)V"⟩ : MethodName) prog_53_method_10_code 4 none [] ({ frames := 0, cells := 0, slots := 0, locals := 0 } : Room) #[(.ref a1), (.int p1), (.int (1 : Int32)), (.int (2 : Int32))] h0 (fun v h L => (v = none ∧ Fr Z.heap.size L ∧ Keep h0 h [a2, a6, a5] ∧ Arv Z h a2 k3 .int (3 : Int32) ([(.int (0 : Int32)), (.int (0 : Int32)), (.int (0 : Int32))].set p1.toNatClampNeg (.int p4)) (.int (0 : Int32)) ∧ Arv Z h a6 k4 .int (2 : Int32) [(.int (4 : Int32)), (.int (2 : Int32))] (.int (0 : Int32)) ∧ Arv Z h a5 k2 .int (4 : Int32) [(.int p2), (.int p3), (.int p4), (.int p5)] (.int (0 : Int32)))) := by
  refine g_body (plainFor_of_name pn_ludarium_rules_BrutusWalk) ?_
  intro p e s m below meth c T0 K X0 e0
  refine g_entry (ef_31 m a1 p1) ?_
  have N0 : Fr Z.heap.size [] := Fr.nil _
  have Ol0 := Ol
  have Kp0 : Keep h0 h0 [a2, a6, a5] := Keep.refl h0 _
  refine g_aloadN X0 K (q := 1) d11_0 rfl rfl rfl ?_
  refine g_getf X0 K (q := 4) (w62 H) Via.refl e0 F_1 d11_1 rfl ?_
  intro T1 X1 e1
  refine g_iloadN X1 K (q := 5) d11_4 rfl rfl ?_
  refine g_aloadN X1 K (q := 6) d11_5 rfl rfl rfl ?_
  refine g_getf X1 K (q := 9) (w82 H) Via.refl e1 F_2 d11_6 rfl ?_
  intro T2 X2 e2
  refine g_iloadN X2 K (q := 10) d11_9 rfl rfl ?_
  refine g_aald X2 K (q := 11) (v := (.ref a5)) e2 A_1 rfl (by decide) rfl d11_10 rfl ?_
  refine g_iloadN X2 K (q := 12) d11_11 rfl rfl ?_
  refine g_iald X2 K (q := 13) (v := (.int p4)) e2 A_2 (by decide) rfl d11_12 rfl ?_
  refine g_iast X2 K (q := 14) (vs' := ([(.int (0 : Int32)), (.int (0 : Int32)), (.int (0 : Int32))].set p1.toNatClampNeg (.int p4))) e2 A_3 hb_1 (own_idx hb_1 rfl) rfl d11_13 rfl ?_
  intro T3 h3 X3 e3 W3 F3
  have N3 := Fr.snoc X3 N0 ge_1
  have Ol3 := Ol0.wr W3 ge_1
  have Kp3 := Kp0.wr W3 (Or.inl (List.mem_of_getElem? (i := 0) rfl))
  refine g_aloadN X3 K (q := 15) d11_14 rfl rfl rfl ?_
  have f1 := (F_3.other W3 (Or.inl ne_1))
  refine g_getf X3 K (q := 18) (w84 H) Via.refl e3 f1 d11_15 rfl ?_
  intro T4 X4 e4
  refine g_iloadN X4 K (q := 19) d11_18 rfl rfl ?_
  refine g_dup2 X4 K (q := 20) d11_19 rfl rfl rfl ?_
  have f2 := (A_4.other W3 ne_2)
  refine g_iald X4 K (q := 21) (v := (.int (3 : Int32))) e4 f2 (by decide) rfl d11_20 rfl ?_
  refine g_iconst X4 K (q := 22) (v := (1 : Int32)) d11_21 (by decide) rfl ?_
  refine g_isub X4 K (q := 23) d11_22 (z := (2 : Int32)) (by decide) rfl ?_
  refine g_iast X4 K (q := 24) (vs' := [(.int (4 : Int32)), (.int (2 : Int32))]) e4 f2 (by decide) (Nat.le_of_ble_eq_true rfl) rfl d11_23 rfl ?_
  intro T5 h5 X5 e5 W5 F5
  have N5 := Fr.snoc X5 N3 ge_2
  have Ol5 := Ol3.wr W5 ge_2
  have Kp5 := Kp3.wr W5 (Or.inl (List.mem_of_getElem? (i := 1) rfl))
  refine g_aloadN X5 K (q := 25) d11_24 rfl rfl rfl ?_
  have f3 := ((F_2.other W3 (Or.inl ne_1)).other W5 (Or.inl ne_3))
  refine g_getf X5 K (q := 28) (w82 H) Via.refl e5 f3 d11_25 rfl ?_
  intro T6 X6 e6
  refine g_iloadN X6 K (q := 29) d11_28 rfl rfl ?_
  have f4 := ((A_1.other W3 ne_4).other W5 ne_5)
  refine g_aald X6 K (q := 30) (v := (.ref a5)) e6 f4 rfl (by decide) rfl d11_29 rfl ?_
  refine g_iloadN X6 K (q := 31) d11_30 rfl rfl ?_
  refine g_aloadN X6 K (q := 32) d11_31 rfl rfl rfl ?_
  refine g_getf X6 K (q := 35) (w82 H) Via.refl e6 f3 d11_32 rfl ?_
  intro T7 X7 e7
  refine g_iloadN X7 K (q := 36) d11_35 rfl rfl ?_
  refine g_aald X7 K (q := 37) (v := (.ref a5)) e7 f4 rfl (by decide) rfl d11_36 rfl ?_
  refine g_aloadN X7 K (q := 38) d11_37 rfl rfl rfl ?_
  have f5 := (f1.other W5 (Or.inl ne_3))
  refine g_getf X7 K (q := 41) (w84 H) Via.refl e7 f5 d11_38 rfl ?_
  intro T8 X8 e8
  refine g_iloadN X8 K (q := 42) d11_41 rfl rfl ?_
  refine g_iald X8 K (q := 43) (v := (.int (2 : Int32))) e8 F5 (by decide) rfl d11_42 rfl ?_
  have f6 := ((A_2.other W3 ne_6).other W5 ne_7)
  refine g_iald X8 K (q := 44) (v := (.int p4)) e8 f6 (by decide) rfl d11_43 rfl ?_
  refine g_iast X8 K (q := 45) (vs' := [(.int p2), (.int p3), (.int p4), (.int p5)]) e8 f6 (by decide) (Nat.le_of_ble_eq_true rfl) rfl d11_44 rfl ?_
  intro T9 h9 X9 e9 W9 F9
  have N9 := Fr.snoc X9 N5 ge_3
  have Ol9 := Ol5.wr W9 ge_3
  have Kp9 := Kp5.wr W9 (Or.inl (List.mem_of_getElem? (i := 2) rfl))
  refine g_ret X9 K d11_45 (by decide) (by decide) ?_
  have Kp : Keep h0 T9.heap [a2, a6, a5] := by rw [e9]; exact Kp9
  have f7 := ((F3.other W5 ne_8).other W9 ne_9)
  have f8 := (F5.other W9 ne_10)
  exact ⟨rfl, N9, Kp, (by rw [e9]; exact f7), (by rw [e9]; exact f8), (by rw [e9]; exact F9)⟩
set_option maxRecDepth 65536 in
set_option maxHeartbeats 40000000 in
theorem rm11_43 (l : Launch) {Z : State} {a0 : Array Value} (H : Hyp Z a0) (a1 : Addr) (p1 : Int32) (a2 : Addr) (a3 : Addr) (a4 : Addr) (a5 : Addr) (k1 : ClassId) (p2 : Int32) (p3 : Int32) (p4 : Int32) (p5 : Int32) (k2 : ClassId) (k3 : ClassId) (a6 : Addr) (k4 : ClassId) (h0 : Heap) (Ol : Old Z Z.heap.size h0) (F_1 : Fld Z h0 a1 "ludarium/rules/BrutusWalk" "moved" "[I" (.ref a2)) (F_2 : Fld Z h0 a1 "ludarium/rules/BrutusWalk" "held" "[[I" (.ref a3)) (A_1 : Arv Z h0 a3 k1 (.array .int) (2 : Int32) [(.ref a4), (.ref a5)] .null) (A_2 : Arv Z h0 a5 k2 .int (4 : Int32) [(.int p2), (.int p3), (.int p4), (.int p5)] (.int (0 : Int32))) (A_3 : Arv Z h0 a2 k3 .int (3 : Int32) [(.int (0 : Int32)), (.int (0 : Int32)), (.int (0 : Int32))] (.int (0 : Int32))) (hb_1 : ¬ p1 < 0 ∧ p1 < (3 : Int32)) (ge_1 : Z.heap.size ≤ a2) (F_3 : Fld Z h0 a1 "ludarium/rules/BrutusWalk" "heldCount" "[I" (.ref a6)) (ne_1 : a1 ≠ a2) (A_4 : Arv Z h0 a6 k4 .int (2 : Int32) [(.int (4 : Int32)), (.int (4 : Int32))] (.int (0 : Int32))) (ne_2 : a6 ≠ a2) (ge_2 : Z.heap.size ≤ a6) (ne_3 : a1 ≠ a6) (ne_4 : a3 ≠ a2) (ne_5 : a3 ≠ a6) (ne_6 : a5 ≠ a2) (ne_7 : a5 ≠ a6) (ge_3 : Z.heap.size ≤ a5) (ne_8 : a2 ≠ a6) (ne_9 : a2 ≠ a5) (ne_10 : a6 ≠ a5) :
    Mt l Z (⟨"ludarium/rules/BrutusWalk", "take", "(III)V"⟩ : MethodName) prog_53_method_10_code 4 none [] ({ frames := 0, cells := 0, slots := 0, locals := 0 } : Room) #[(.ref a1), (.int p1), (.int (1 : Int32)), (.int (0 : Int32))] h0 (fun v h L => (v = none ∧ Fr Z.heap.size L ∧ Keep h0 h [a2, a6, a5] ∧ Arv Z h a2 k3 .int (3 : Int32) ([(.int (0 : Int32)), (.int (0 : Int32)), (.int (0 : Int32))].set p1.toNatClampNeg (.int p2)) (.int (0 : Int32)) ∧ Arv Z h a6 k4 .int (2 : Int32) [(.int (4 : Int32)), (.int (3 : Int32))] (.int (0 : Int32)) ∧ Arv Z h a5 k2 .int (4 : Int32) [(.int p5), (.int p3), (.int p4), (.int p5)] (.int (0 : Int32)))) := by
  refine g_body (plainFor_of_name pn_ludarium_rules_BrutusWalk) ?_
  intro p e s m below meth c T0 K X0 e0
  refine g_entry (ef_29 m a1 p1) ?_
  have N0 : Fr Z.heap.size [] := Fr.nil _
  have Ol0 := Ol
  have Kp0 : Keep h0 h0 [a2, a6, a5] := Keep.refl h0 _
  refine g_aloadN X0 K (q := 1) d11_0 rfl rfl rfl ?_
  refine g_getf X0 K (q := 4) (w62 H) Via.refl e0 F_1 d11_1 rfl ?_
  intro T1 X1 e1
  refine g_iloadN X1 K (q := 5) d11_4 rfl rfl ?_
  refine g_aloadN X1 K (q := 6) d11_5 rfl rfl rfl ?_
  refine g_getf X1 K (q := 9) (w82 H) Via.refl e1 F_2 d11_6 rfl ?_
  intro T2 X2 e2
  refine g_iloadN X2 K (q := 10) d11_9 rfl rfl ?_
  refine g_aald X2 K (q := 11) (v := (.ref a5)) e2 A_1 rfl (by decide) rfl d11_10 rfl ?_
  refine g_iloadN X2 K (q := 12) d11_11 rfl rfl ?_
  refine g_iald X2 K (q := 13) (v := (.int p2)) e2 A_2 (by decide) rfl d11_12 rfl ?_
  refine g_iast X2 K (q := 14) (vs' := ([(.int (0 : Int32)), (.int (0 : Int32)), (.int (0 : Int32))].set p1.toNatClampNeg (.int p2))) e2 A_3 hb_1 (own_idx hb_1 rfl) rfl d11_13 rfl ?_
  intro T3 h3 X3 e3 W3 F3
  have N3 := Fr.snoc X3 N0 ge_1
  have Ol3 := Ol0.wr W3 ge_1
  have Kp3 := Kp0.wr W3 (Or.inl (List.mem_of_getElem? (i := 0) rfl))
  refine g_aloadN X3 K (q := 15) d11_14 rfl rfl rfl ?_
  have f1 := (F_3.other W3 (Or.inl ne_1))
  refine g_getf X3 K (q := 18) (w84 H) Via.refl e3 f1 d11_15 rfl ?_
  intro T4 X4 e4
  refine g_iloadN X4 K (q := 19) d11_18 rfl rfl ?_
  refine g_dup2 X4 K (q := 20) d11_19 rfl rfl rfl ?_
  have f2 := (A_4.other W3 ne_2)
  refine g_iald X4 K (q := 21) (v := (.int (4 : Int32))) e4 f2 (by decide) rfl d11_20 rfl ?_
  refine g_iconst X4 K (q := 22) (v := (1 : Int32)) d11_21 (by decide) rfl ?_
  refine g_isub X4 K (q := 23) d11_22 (z := (3 : Int32)) (by decide) rfl ?_
  refine g_iast X4 K (q := 24) (vs' := [(.int (4 : Int32)), (.int (3 : Int32))]) e4 f2 (by decide) (Nat.le_of_ble_eq_true rfl) rfl d11_23 rfl ?_
  intro T5 h5 X5 e5 W5 F5
  have N5 := Fr.snoc X5 N3 ge_2
  have Ol5 := Ol3.wr W5 ge_2
  have Kp5 := Kp3.wr W5 (Or.inl (List.mem_of_getElem? (i := 1) rfl))
  refine g_aloadN X5 K (q := 25) d11_24 rfl rfl rfl ?_
  have f3 := ((F_2.other W3 (Or.inl ne_1)).other W5 (Or.inl ne_3))
  refine g_getf X5 K (q := 28) (w82 H) Via.refl e5 f3 d11_25 rfl ?_
  intro T6 X6 e6
  refine g_iloadN X6 K (q := 29) d11_28 rfl rfl ?_
  have f4 := ((A_1.other W3 ne_4).other W5 ne_5)
  refine g_aald X6 K (q := 30) (v := (.ref a5)) e6 f4 rfl (by decide) rfl d11_29 rfl ?_
  refine g_iloadN X6 K (q := 31) d11_30 rfl rfl ?_
  refine g_aloadN X6 K (q := 32) d11_31 rfl rfl rfl ?_
  refine g_getf X6 K (q := 35) (w82 H) Via.refl e6 f3 d11_32 rfl ?_
  intro T7 X7 e7
  refine g_iloadN X7 K (q := 36) d11_35 rfl rfl ?_
  refine g_aald X7 K (q := 37) (v := (.ref a5)) e7 f4 rfl (by decide) rfl d11_36 rfl ?_
  refine g_aloadN X7 K (q := 38) d11_37 rfl rfl rfl ?_
  have f5 := (f1.other W5 (Or.inl ne_3))
  refine g_getf X7 K (q := 41) (w84 H) Via.refl e7 f5 d11_38 rfl ?_
  intro T8 X8 e8
  refine g_iloadN X8 K (q := 42) d11_41 rfl rfl ?_
  refine g_iald X8 K (q := 43) (v := (.int (3 : Int32))) e8 F5 (by decide) rfl d11_42 rfl ?_
  have f6 := ((A_2.other W3 ne_6).other W5 ne_7)
  refine g_iald X8 K (q := 44) (v := (.int p5)) e8 f6 (by decide) rfl d11_43 rfl ?_
  refine g_iast X8 K (q := 45) (vs' := [(.int p5), (.int p3), (.int p4), (.int p5)]) e8 f6 (by decide) (Nat.le_of_ble_eq_true rfl) rfl d11_44 rfl ?_
  intro T9 h9 X9 e9 W9 F9
  have N9 := Fr.snoc X9 N5 ge_3
  have Ol9 := Ol5.wr W9 ge_3
  have Kp9 := Kp5.wr W9 (Or.inl (List.mem_of_getElem? (i := 2) rfl))
  refine g_ret X9 K d11_45 (by decide) (by decide) ?_
  have Kp : Keep h0 T9.heap [a2, a6, a5] := by rw [e9]; exact Kp9
  have f7 := ((F3.other W5 ne_8).other W9 ne_9)
  have f8 := (F5.other W9 ne_10)
  exact ⟨rfl, N9, Kp, (by rw [e9]; exact f7), (by rw [e9]; exact f8), (by rw [e9]; exact F9)⟩
set_option maxRecDepth 65536 in
set_option maxHeartbeats 40000000 in
theorem rm11_44 (l : Launch) {Z : State} {a0 : Array Value} (H : Hyp Z a0) (a1 : Addr) (p1 : Int32) (a2 : Addr) (a3 : Addr) (a4 : Addr) (a5 : Addr) (k1 : ClassId) (p2 : Int32) (p3 : Int32) (p4 : Int32) (p5 : Int32) (k2 : ClassId) (k3 : ClassId) (a6 : Addr) (k4 : ClassId) (h0 : Heap) (Ol : Old Z Z.heap.size h0) (F_1 : Fld Z h0 a1 "ludarium/rules/BrutusWalk" "moved" "[I" (.ref a2)) (F_2 : Fld Z h0 a1 "ludarium/rules/BrutusWalk" "held" "[[I" (.ref a3)) (A_1 : Arv Z h0 a3 k1 (.array .int) (2 : Int32) [(.ref a4), (.ref a5)] .null) (A_2 : Arv Z h0 a5 k2 .int (4 : Int32) [(.int p2), (.int p3), (.int p4), (.int p5)] (.int (0 : Int32))) (A_3 : Arv Z h0 a2 k3 .int (3 : Int32) [(.int (0 : Int32)), (.int (0 : Int32)), (.int (0 : Int32))] (.int (0 : Int32))) (hb_1 : ¬ p1 < 0 ∧ p1 < (3 : Int32)) (ge_1 : Z.heap.size ≤ a2) (F_3 : Fld Z h0 a1 "ludarium/rules/BrutusWalk" "heldCount" "[I" (.ref a6)) (ne_1 : a1 ≠ a2) (A_4 : Arv Z h0 a6 k4 .int (2 : Int32) [(.int (4 : Int32)), (.int (4 : Int32))] (.int (0 : Int32))) (ne_2 : a6 ≠ a2) (ge_2 : Z.heap.size ≤ a6) (ne_3 : a1 ≠ a6) (ne_4 : a3 ≠ a2) (ne_5 : a3 ≠ a6) (ne_6 : a5 ≠ a2) (ne_7 : a5 ≠ a6) (ge_3 : Z.heap.size ≤ a5) (ne_8 : a2 ≠ a6) (ne_9 : a2 ≠ a5) (ne_10 : a6 ≠ a5) :
    Mt l Z (⟨"ludarium/rules/BrutusWalk", "take", "(III)V"⟩ : MethodName) prog_53_method_10_code 4 none [] ({ frames := 0, cells := 0, slots := 0, locals := 0 } : Room) #[(.ref a1), (.int p1), (.int (1 : Int32)), (.int (1 : Int32))] h0 (fun v h L => (v = none ∧ Fr Z.heap.size L ∧ Keep h0 h [a2, a6, a5] ∧ Arv Z h a2 k3 .int (3 : Int32) ([(.int (0 : Int32)), (.int (0 : Int32)), (.int (0 : Int32))].set p1.toNatClampNeg (.int p3)) (.int (0 : Int32)) ∧ Arv Z h a6 k4 .int (2 : Int32) [(.int (4 : Int32)), (.int (3 : Int32))] (.int (0 : Int32)) ∧ Arv Z h a5 k2 .int (4 : Int32) [(.int p2), (.int p5), (.int p4), (.int p5)] (.int (0 : Int32)))) := by
  refine g_body (plainFor_of_name pn_ludarium_rules_BrutusWalk) ?_
  intro p e s m below meth c T0 K X0 e0
  refine g_entry (ef_30 m a1 p1) ?_
  have N0 : Fr Z.heap.size [] := Fr.nil _
  have Ol0 := Ol
  have Kp0 : Keep h0 h0 [a2, a6, a5] := Keep.refl h0 _
  refine g_aloadN X0 K (q := 1) d11_0 rfl rfl rfl ?_
  refine g_getf X0 K (q := 4) (w62 H) Via.refl e0 F_1 d11_1 rfl ?_
  intro T1 X1 e1
  refine g_iloadN X1 K (q := 5) d11_4 rfl rfl ?_
  refine g_aloadN X1 K (q := 6) d11_5 rfl rfl rfl ?_
  refine g_getf X1 K (q := 9) (w82 H) Via.refl e1 F_2 d11_6 rfl ?_
  intro T2 X2 e2
  refine g_iloadN X2 K (q := 10) d11_9 rfl rfl ?_
  refine g_aald X2 K (q := 11) (v := (.ref a5)) e2 A_1 rfl (by decide) rfl d11_10 rfl ?_
  refine g_iloadN X2 K (q := 12) d11_11 rfl rfl ?_
  refine g_iald X2 K (q := 13) (v := (.int p3)) e2 A_2 (by decide) rfl d11_12 rfl ?_
  refine g_iast X2 K (q := 14) (vs' := ([(.int (0 : Int32)), (.int (0 : Int32)), (.int (0 : Int32))].set p1.toNatClampNeg (.int p3))) e2 A_3 hb_1 (own_idx hb_1 rfl) rfl d11_13 rfl ?_
  intro T3 h3 X3 e3 W3 F3
  have N3 := Fr.snoc X3 N0 ge_1
  have Ol3 := Ol0.wr W3 ge_1
  have Kp3 := Kp0.wr W3 (Or.inl (List.mem_of_getElem? (i := 0) rfl))
  refine g_aloadN X3 K (q := 15) d11_14 rfl rfl rfl ?_
  have f1 := (F_3.other W3 (Or.inl ne_1))
  refine g_getf X3 K (q := 18) (w84 H) Via.refl e3 f1 d11_15 rfl ?_
  intro T4 X4 e4
  refine g_iloadN X4 K (q := 19) d11_18 rfl rfl ?_
  refine g_dup2 X4 K (q := 20) d11_19 rfl rfl rfl ?_
  have f2 := (A_4.other W3 ne_2)
  refine g_iald X4 K (q := 21) (v := (.int (4 : Int32))) e4 f2 (by decide) rfl d11_20 rfl ?_
  refine g_iconst X4 K (q := 22) (v := (1 : Int32)) d11_21 (by decide) rfl ?_
  refine g_isub X4 K (q := 23) d11_22 (z := (3 : Int32)) (by decide) rfl ?_
  refine g_iast X4 K (q := 24) (vs' := [(.int (4 : Int32)), (.int (3 : Int32))]) e4 f2 (by decide) (Nat.le_of_ble_eq_true rfl) rfl d11_23 rfl ?_
  intro T5 h5 X5 e5 W5 F5
  have N5 := Fr.snoc X5 N3 ge_2
  have Ol5 := Ol3.wr W5 ge_2
  have Kp5 := Kp3.wr W5 (Or.inl (List.mem_of_getElem? (i := 1) rfl))
  refine g_aloadN X5 K (q := 25) d11_24 rfl rfl rfl ?_
  have f3 := ((F_2.other W3 (Or.inl ne_1)).other W5 (Or.inl ne_3))
  refine g_getf X5 K (q := 28) (w82 H) Via.refl e5 f3 d11_25 rfl ?_
  intro T6 X6 e6
  refine g_iloadN X6 K (q := 29) d11_28 rfl rfl ?_
  have f4 := ((A_1.other W3 ne_4).other W5 ne_5)
  refine g_aald X6 K (q := 30) (v := (.ref a5)) e6 f4 rfl (by decide) rfl d11_29 rfl ?_
  refine g_iloadN X6 K (q := 31) d11_30 rfl rfl ?_
  refine g_aloadN X6 K (q := 32) d11_31 rfl rfl rfl ?_
  refine g_getf X6 K (q := 35) (w82 H) Via.refl e6 f3 d11_32 rfl ?_
  intro T7 X7 e7
  refine g_iloadN X7 K (q := 36) d11_35 rfl rfl ?_
  refine g_aald X7 K (q := 37) (v := (.ref a5)) e7 f4 rfl (by decide) rfl d11_36 rfl ?_
  refine g_aloadN X7 K (q := 38) d11_37 rfl rfl rfl ?_
  have f5 := (f1.other W5 (Or.inl ne_3))
  refine g_getf X7 K (q := 41) (w84 H) Via.refl e7 f5 d11_38 rfl ?_
  intro T8 X8 e8
  refine g_iloadN X8 K (q := 42) d11_41 rfl rfl ?_
  refine g_iald X8 K (q := 43) (v := (.int (3 : Int32))) e8 F5 (by decide) rfl d11_42 rfl ?_
  have f6 := ((A_2.other W3 ne_6).other W5 ne_7)
  refine g_iald X8 K (q := 44) (v := (.int p5)) e8 f6 (by decide) rfl d11_43 rfl ?_
  refine g_iast X8 K (q := 45) (vs' := [(.int p2), (.int p5), (.int p4), (.int p5)]) e8 f6 (by decide) (Nat.le_of_ble_eq_true rfl) rfl d11_44 rfl ?_
  intro T9 h9 X9 e9 W9 F9
  have N9 := Fr.snoc X9 N5 ge_3
  have Ol9 := Ol5.wr W9 ge_3
  have Kp9 := Kp5.wr W9 (Or.inl (List.mem_of_getElem? (i := 2) rfl))
  refine g_ret X9 K d11_45 (by decide) (by decide) ?_
  have Kp : Keep h0 T9.heap [a2, a6, a5] := by rw [e9]; exact Kp9
  have f7 := ((F3.other W5 ne_8).other W9 ne_9)
  have f8 := (F5.other W9 ne_10)
  exact ⟨rfl, N9, Kp, (by rw [e9]; exact f7), (by rw [e9]; exact f8), (by rw [e9]; exact F9)⟩
set_option maxRecDepth 65536 in
set_option maxHeartbeats 40000000 in
theorem rm11_45 (l : Launch) {Z : State} {a0 : Array Value} (H : Hyp Z a0) (a1 : Addr) (p1 : Int32) (a2 : Addr) (a3 : Addr) (a4 : Addr) (a5 : Addr) (k1 : ClassId) (p2 : Int32) (p3 : Int32) (p4 : Int32) (p5 : Int32) (k2 : ClassId) (k3 : ClassId) (a6 : Addr) (k4 : ClassId) (h0 : Heap) (Ol : Old Z Z.heap.size h0) (F_1 : Fld Z h0 a1 "ludarium/rules/BrutusWalk" "moved" "[I" (.ref a2)) (F_2 : Fld Z h0 a1 "ludarium/rules/BrutusWalk" "held" "[[I" (.ref a3)) (A_1 : Arv Z h0 a3 k1 (.array .int) (2 : Int32) [(.ref a4), (.ref a5)] .null) (A_2 : Arv Z h0 a5 k2 .int (4 : Int32) [(.int p2), (.int p3), (.int p4), (.int p5)] (.int (0 : Int32))) (A_3 : Arv Z h0 a2 k3 .int (3 : Int32) [(.int (0 : Int32)), (.int (0 : Int32)), (.int (0 : Int32))] (.int (0 : Int32))) (hb_1 : ¬ p1 < 0 ∧ p1 < (3 : Int32)) (ge_1 : Z.heap.size ≤ a2) (F_3 : Fld Z h0 a1 "ludarium/rules/BrutusWalk" "heldCount" "[I" (.ref a6)) (ne_1 : a1 ≠ a2) (A_4 : Arv Z h0 a6 k4 .int (2 : Int32) [(.int (4 : Int32)), (.int (4 : Int32))] (.int (0 : Int32))) (ne_2 : a6 ≠ a2) (ge_2 : Z.heap.size ≤ a6) (ne_3 : a1 ≠ a6) (ne_4 : a3 ≠ a2) (ne_5 : a3 ≠ a6) (ne_6 : a5 ≠ a2) (ne_7 : a5 ≠ a6) (ge_3 : Z.heap.size ≤ a5) (ne_8 : a2 ≠ a6) (ne_9 : a2 ≠ a5) (ne_10 : a6 ≠ a5) :
    Mt l Z (⟨"ludarium/rules/BrutusWalk", "take", "(III)V"⟩ : MethodName) prog_53_method_10_code 4 none [] ({ frames := 0, cells := 0, slots := 0, locals := 0 } : Room) #[(.ref a1), (.int p1), (.int (1 : Int32)), (.int (2 : Int32))] h0 (fun v h L => (v = none ∧ Fr Z.heap.size L ∧ Keep h0 h [a2, a6, a5] ∧ Arv Z h a2 k3 .int (3 : Int32) ([(.int (0 : Int32)), (.int (0 : Int32)), (.int (0 : Int32))].set p1.toNatClampNeg (.int p4)) (.int (0 : Int32)) ∧ Arv Z h a6 k4 .int (2 : Int32) [(.int (4 : Int32)), (.int (3 : Int32))] (.int (0 : Int32)) ∧ Arv Z h a5 k2 .int (4 : Int32) [(.int p2), (.int p3), (.int p5), (.int p5)] (.int (0 : Int32)))) := by
  refine g_body (plainFor_of_name pn_ludarium_rules_BrutusWalk) ?_
  intro p e s m below meth c T0 K X0 e0
  refine g_entry (ef_31 m a1 p1) ?_
  have N0 : Fr Z.heap.size [] := Fr.nil _
  have Ol0 := Ol
  have Kp0 : Keep h0 h0 [a2, a6, a5] := Keep.refl h0 _
  refine g_aloadN X0 K (q := 1) d11_0 rfl rfl rfl ?_
  refine g_getf X0 K (q := 4) (w62 H) Via.refl e0 F_1 d11_1 rfl ?_
  intro T1 X1 e1
  refine g_iloadN X1 K (q := 5) d11_4 rfl rfl ?_
  refine g_aloadN X1 K (q := 6) d11_5 rfl rfl rfl ?_
  refine g_getf X1 K (q := 9) (w82 H) Via.refl e1 F_2 d11_6 rfl ?_
  intro T2 X2 e2
  refine g_iloadN X2 K (q := 10) d11_9 rfl rfl ?_
  refine g_aald X2 K (q := 11) (v := (.ref a5)) e2 A_1 rfl (by decide) rfl d11_10 rfl ?_
  refine g_iloadN X2 K (q := 12) d11_11 rfl rfl ?_
  refine g_iald X2 K (q := 13) (v := (.int p4)) e2 A_2 (by decide) rfl d11_12 rfl ?_
  refine g_iast X2 K (q := 14) (vs' := ([(.int (0 : Int32)), (.int (0 : Int32)), (.int (0 : Int32))].set p1.toNatClampNeg (.int p4))) e2 A_3 hb_1 (own_idx hb_1 rfl) rfl d11_13 rfl ?_
  intro T3 h3 X3 e3 W3 F3
  have N3 := Fr.snoc X3 N0 ge_1
  have Ol3 := Ol0.wr W3 ge_1
  have Kp3 := Kp0.wr W3 (Or.inl (List.mem_of_getElem? (i := 0) rfl))
  refine g_aloadN X3 K (q := 15) d11_14 rfl rfl rfl ?_
  have f1 := (F_3.other W3 (Or.inl ne_1))
  refine g_getf X3 K (q := 18) (w84 H) Via.refl e3 f1 d11_15 rfl ?_
  intro T4 X4 e4
  refine g_iloadN X4 K (q := 19) d11_18 rfl rfl ?_
  refine g_dup2 X4 K (q := 20) d11_19 rfl rfl rfl ?_
  have f2 := (A_4.other W3 ne_2)
  refine g_iald X4 K (q := 21) (v := (.int (4 : Int32))) e4 f2 (by decide) rfl d11_20 rfl ?_
  refine g_iconst X4 K (q := 22) (v := (1 : Int32)) d11_21 (by decide) rfl ?_
  refine g_isub X4 K (q := 23) d11_22 (z := (3 : Int32)) (by decide) rfl ?_
  refine g_iast X4 K (q := 24) (vs' := [(.int (4 : Int32)), (.int (3 : Int32))]) e4 f2 (by decide) (Nat.le_of_ble_eq_true rfl) rfl d11_23 rfl ?_
  intro T5 h5 X5 e5 W5 F5
  have N5 := Fr.snoc X5 N3 ge_2
  have Ol5 := Ol3.wr W5 ge_2
  have Kp5 := Kp3.wr W5 (Or.inl (List.mem_of_getElem? (i := 1) rfl))
  refine g_aloadN X5 K (q := 25) d11_24 rfl rfl rfl ?_
  have f3 := ((F_2.other W3 (Or.inl ne_1)).other W5 (Or.inl ne_3))
  refine g_getf X5 K (q := 28) (w82 H) Via.refl e5 f3 d11_25 rfl ?_
  intro T6 X6 e6
  refine g_iloadN X6 K (q := 29) d11_28 rfl rfl ?_
  have f4 := ((A_1.other W3 ne_4).other W5 ne_5)
  refine g_aald X6 K (q := 30) (v := (.ref a5)) e6 f4 rfl (by decide) rfl d11_29 rfl ?_
  refine g_iloadN X6 K (q := 31) d11_30 rfl rfl ?_
  refine g_aloadN X6 K (q := 32) d11_31 rfl rfl rfl ?_
  refine g_getf X6 K (q := 35) (w82 H) Via.refl e6 f3 d11_32 rfl ?_
  intro T7 X7 e7
  refine g_iloadN X7 K (q := 36) d11_35 rfl rfl ?_
  refine g_aald X7 K (q := 37) (v := (.ref a5)) e7 f4 rfl (by decide) rfl d11_36 rfl ?_
  refine g_aloadN X7 K (q := 38) d11_37 rfl rfl rfl ?_
  have f5 := (f1.other W5 (Or.inl ne_3))
  refine g_getf X7 K (q := 41) (w84 H) Via.refl e7 f5 d11_38 rfl ?_
  intro T8 X8 e8
  refine g_iloadN X8 K (q := 42) d11_41 rfl rfl ?_
  refine g_iald X8 K (q := 43) (v := (.int (3 : Int32))) e8 F5 (by decide) rfl d11_42 rfl ?_
  have f6 := ((A_2.other W3 ne_6).other W5 ne_7)
  refine g_iald X8 K (q := 44) (v := (.int p5)) e8 f6 (by decide) rfl d11_43 rfl ?_
  refine g_iast X8 K (q := 45) (vs' := [(.int p2), (.int p3), (.int p5), (.int p5)]) e8 f6 (by decide) (Nat.le_of_ble_eq_true rfl) rfl d11_44 rfl ?_
  intro T9 h9 X9 e9 W9 F9
  have N9 := Fr.snoc X9 N5 ge_3
  have Ol9 := Ol5.wr W9 ge_3
  have Kp9 := Kp5.wr W9 (Or.inl (List.mem_of_getElem? (i := 2) rfl))
  refine g_ret X9 K d11_45 (by decide) (by decide) ?_
  have Kp : Keep h0 T9.heap [a2, a6, a5] := by rw [e9]; exact Kp9
  have f7 := ((F3.other W5 ne_8).other W9 ne_9)
  have f8 := (F5.other W9 ne_10)
  exact ⟨rfl, N9, Kp, (by rw [e9]; exact f7), (by rw [e9]; exact f8), (by rw [e9]; exact F9)⟩
set_option maxRecDepth 65536 in
set_option maxHeartbeats 40000000 in
theorem rm11_46 (l : Launch) {Z : State} {a0 : Array Value} (H : Hyp Z a0) (a1 : Addr) (p1 : Int32) (a2 : Addr) (a3 : Addr) (a4 : Addr) (a5 : Addr) (k1 : ClassId) (p2 : Int32) (p3 : Int32) (p4 : Int32) (p5 : Int32) (k2 : ClassId) (k3 : ClassId) (a6 : Addr) (k4 : ClassId) (h0 : Heap) (Ol : Old Z Z.heap.size h0) (F_1 : Fld Z h0 a1 "ludarium/rules/BrutusWalk" "moved" "[I" (.ref a2)) (F_2 : Fld Z h0 a1 "ludarium/rules/BrutusWalk" "held" "[[I" (.ref a3)) (A_1 : Arv Z h0 a3 k1 (.array .int) (2 : Int32) [(.ref a4), (.ref a5)] .null) (A_2 : Arv Z h0 a5 k2 .int (4 : Int32) [(.int p2), (.int p3), (.int p4), (.int p5)] (.int (0 : Int32))) (A_3 : Arv Z h0 a2 k3 .int (3 : Int32) [(.int (0 : Int32)), (.int (0 : Int32)), (.int (0 : Int32))] (.int (0 : Int32))) (hb_1 : ¬ p1 < 0 ∧ p1 < (3 : Int32)) (ge_1 : Z.heap.size ≤ a2) (F_3 : Fld Z h0 a1 "ludarium/rules/BrutusWalk" "heldCount" "[I" (.ref a6)) (ne_1 : a1 ≠ a2) (A_4 : Arv Z h0 a6 k4 .int (2 : Int32) [(.int (4 : Int32)), (.int (4 : Int32))] (.int (0 : Int32))) (ne_2 : a6 ≠ a2) (ge_2 : Z.heap.size ≤ a6) (ne_3 : a1 ≠ a6) (ne_4 : a3 ≠ a2) (ne_5 : a3 ≠ a6) (ne_6 : a5 ≠ a2) (ne_7 : a5 ≠ a6) (ge_3 : Z.heap.size ≤ a5) (ne_8 : a2 ≠ a6) (ne_9 : a2 ≠ a5) (ne_10 : a6 ≠ a5) :
    Mt l Z (⟨"ludarium/rules/BrutusWalk", "take", "(III)V"⟩ : MethodName) prog_53_method_10_code 4 none [] ({ frames := 0, cells := 0, slots := 0, locals := 0 } : Room) #[(.ref a1), (.int p1), (.int (1 : Int32)), (.int (3 : Int32))] h0 (fun v h L => (v = none ∧ Fr Z.heap.size L ∧ Keep h0 h [a2, a6, a5] ∧ Arv Z h a2 k3 .int (3 : Int32) ([(.int (0 : Int32)), (.int (0 : Int32)), (.int (0 : Int32))].set p1.toNatClampNeg (.int p5)) (.int (0 : Int32)) ∧ Arv Z h a6 k4 .int (2 : Int32) [(.int (4 : Int32)), (.int (3 : Int32))] (.int (0 : Int32)) ∧ Arv Z h a5 k2 .int (4 : Int32) [(.int p2), (.int p3), (.int p4), (.int p5)] (.int (0 : Int32)))) := by
  refine g_body (plainFor_of_name pn_ludarium_rules_BrutusWalk) ?_
  intro p e s m below meth c T0 K X0 e0
  refine g_entry (ef_32 m a1 p1) ?_
  have N0 : Fr Z.heap.size [] := Fr.nil _
  have Ol0 := Ol
  have Kp0 : Keep h0 h0 [a2, a6, a5] := Keep.refl h0 _
  refine g_aloadN X0 K (q := 1) d11_0 rfl rfl rfl ?_
  refine g_getf X0 K (q := 4) (w62 H) Via.refl e0 F_1 d11_1 rfl ?_
  intro T1 X1 e1
  refine g_iloadN X1 K (q := 5) d11_4 rfl rfl ?_
  refine g_aloadN X1 K (q := 6) d11_5 rfl rfl rfl ?_
  refine g_getf X1 K (q := 9) (w82 H) Via.refl e1 F_2 d11_6 rfl ?_
  intro T2 X2 e2
  refine g_iloadN X2 K (q := 10) d11_9 rfl rfl ?_
  refine g_aald X2 K (q := 11) (v := (.ref a5)) e2 A_1 rfl (by decide) rfl d11_10 rfl ?_
  refine g_iloadN X2 K (q := 12) d11_11 rfl rfl ?_
  refine g_iald X2 K (q := 13) (v := (.int p5)) e2 A_2 (by decide) rfl d11_12 rfl ?_
  refine g_iast X2 K (q := 14) (vs' := ([(.int (0 : Int32)), (.int (0 : Int32)), (.int (0 : Int32))].set p1.toNatClampNeg (.int p5))) e2 A_3 hb_1 (own_idx hb_1 rfl) rfl d11_13 rfl ?_
  intro T3 h3 X3 e3 W3 F3
  have N3 := Fr.snoc X3 N0 ge_1
  have Ol3 := Ol0.wr W3 ge_1
  have Kp3 := Kp0.wr W3 (Or.inl (List.mem_of_getElem? (i := 0) rfl))
  refine g_aloadN X3 K (q := 15) d11_14 rfl rfl rfl ?_
  have f1 := (F_3.other W3 (Or.inl ne_1))
  refine g_getf X3 K (q := 18) (w84 H) Via.refl e3 f1 d11_15 rfl ?_
  intro T4 X4 e4
  refine g_iloadN X4 K (q := 19) d11_18 rfl rfl ?_
  refine g_dup2 X4 K (q := 20) d11_19 rfl rfl rfl ?_
  have f2 := (A_4.other W3 ne_2)
  refine g_iald X4 K (q := 21) (v := (.int (4 : Int32))) e4 f2 (by decide) rfl d11_20 rfl ?_
  refine g_iconst X4 K (q := 22) (v := (1 : Int32)) d11_21 (by decide) rfl ?_
  refine g_isub X4 K (q := 23) d11_22 (z := (3 : Int32)) (by decide) rfl ?_
  refine g_iast X4 K (q := 24) (vs' := [(.int (4 : Int32)), (.int (3 : Int32))]) e4 f2 (by decide) (Nat.le_of_ble_eq_true rfl) rfl d11_23 rfl ?_
  intro T5 h5 X5 e5 W5 F5
  have N5 := Fr.snoc X5 N3 ge_2
  have Ol5 := Ol3.wr W5 ge_2
  have Kp5 := Kp3.wr W5 (Or.inl (List.mem_of_getElem? (i := 1) rfl))
  refine g_aloadN X5 K (q := 25) d11_24 rfl rfl rfl ?_
  have f3 := ((F_2.other W3 (Or.inl ne_1)).other W5 (Or.inl ne_3))
  refine g_getf X5 K (q := 28) (w82 H) Via.refl e5 f3 d11_25 rfl ?_
  intro T6 X6 e6
  refine g_iloadN X6 K (q := 29) d11_28 rfl rfl ?_
  have f4 := ((A_1.other W3 ne_4).other W5 ne_5)
  refine g_aald X6 K (q := 30) (v := (.ref a5)) e6 f4 rfl (by decide) rfl d11_29 rfl ?_
  refine g_iloadN X6 K (q := 31) d11_30 rfl rfl ?_
  refine g_aloadN X6 K (q := 32) d11_31 rfl rfl rfl ?_
  refine g_getf X6 K (q := 35) (w82 H) Via.refl e6 f3 d11_32 rfl ?_
  intro T7 X7 e7
  refine g_iloadN X7 K (q := 36) d11_35 rfl rfl ?_
  refine g_aald X7 K (q := 37) (v := (.ref a5)) e7 f4 rfl (by decide) rfl d11_36 rfl ?_
  refine g_aloadN X7 K (q := 38) d11_37 rfl rfl rfl ?_
  have f5 := (f1.other W5 (Or.inl ne_3))
  refine g_getf X7 K (q := 41) (w84 H) Via.refl e7 f5 d11_38 rfl ?_
  intro T8 X8 e8
  refine g_iloadN X8 K (q := 42) d11_41 rfl rfl ?_
  refine g_iald X8 K (q := 43) (v := (.int (3 : Int32))) e8 F5 (by decide) rfl d11_42 rfl ?_
  have f6 := ((A_2.other W3 ne_6).other W5 ne_7)
  refine g_iald X8 K (q := 44) (v := (.int p5)) e8 f6 (by decide) rfl d11_43 rfl ?_
  refine g_iast X8 K (q := 45) (vs' := [(.int p2), (.int p3), (.int p4), (.int p5)]) e8 f6 (by decide) (Nat.le_of_ble_eq_true rfl) rfl d11_44 rfl ?_
  intro T9 h9 X9 e9 W9 F9
  have N9 := Fr.snoc X9 N5 ge_3
  have Ol9 := Ol5.wr W9 ge_3
  have Kp9 := Kp5.wr W9 (Or.inl (List.mem_of_getElem? (i := 2) rfl))
  refine g_ret X9 K d11_45 (by decide) (by decide) ?_
  have Kp : Keep h0 T9.heap [a2, a6, a5] := by rw [e9]; exact Kp9
  have f7 := ((F3.other W5 ne_8).other W9 ne_9)
  have f8 := (F5.other W9 ne_10)
  exact ⟨rfl, N9, Kp, (by rw [e9]; exact f7), (by rw [e9]; exact f8), (by rw [e9]; exact F9)⟩
set_option maxRecDepth 65536 in
set_option maxHeartbeats 40000000 in
theorem rm0 (l : Launch) {Z : State} {a0 : Array Value} (H : Hyp Z a0) (p0 : Int32) (p1 : Int32) (p2 : Int32) (p3 : Int32) (p4 : Int32) (h0 : Heap) (Ol : Old Z Z.heap.size h0) :
    Mt l Z x code maxLocals ret tables_1 room_1 #[(.int p0), (.int p1), (.int p2), (.int p3), (.int p4)] h0 (fun v h L => v = some (.int 1) ∧ Fr Z.heap.size L) := by
  refine g_body (bytes := code) (maxL := maxLocals) (ret := some .boolean) (plainFor_of_name pn_ludarium_rules_BrutusWalkTakePinLaw) ?_
  intro p e s m below meth c T0 K X0 e0
  refine g_entry (ef_33 m p0 p1 p2 p3 p4) ?_
  have N0 : Fr Z.heap.size [] := Fr.nil _
  have Ol0 : Old Z Z.heap.size h0 := Ol
  refine g_new X0 K (q := 3) (w0 H) (w1 H) (w2 H) e0 at_0 (by decide) (by decide) rfl ?_
  intro T1 h1 b1 X1 e1 E1 z1 A1 D1
  have ge1 : Z.heap.size ≤ b1 := Nat.le_trans Ol0.2.1 (Nat.le_of_eq z1)
  have Ol1 := Ol0.ext E1
  have F1_seat : Fld Z h1 b1 "ludarium/rules/BrutusSight" "seat" "I" (.int (0 : Int32)) := D1 (Or.inr (w11 H)) (ty := .int) (by decide)
  have F1_copies : Fld Z h1 b1 "ludarium/rules/BrutusSight" "copies" "I" (.int (0 : Int32)) := D1 (Or.inr (w13 H)) (ty := .int) (by decide)
  have F1_dealt : Fld Z h1 b1 "ludarium/rules/BrutusSight" "dealt" "[I" .null := D1 (Or.inr (w15 H)) (ty := (.array .int)) (by decide)
  have F1_hand : Fld Z h1 b1 "ludarium/rules/BrutusSight" "hand" "[I" .null := D1 (Or.inr (w17 H)) (ty := (.array .int)) (by decide)
  have F1_moves : Fld Z h1 b1 "ludarium/rules/BrutusSight" "moves" "[I" .null := D1 (Or.inr (w19 H)) (ty := (.array .int)) (by decide)
  have F1_runStart : Fld Z h1 b1 "ludarium/rules/BrutusSight" "runStart" "[I" .null := D1 (Or.inr (w21 H)) (ty := (.array .int)) (by decide)
  have F1_runEnd : Fld Z h1 b1 "ludarium/rules/BrutusSight" "runEnd" "[I" .null := D1 (Or.inr (w23 H)) (ty := (.array .int)) (by decide)
  refine g_dup X1 K (q := 4) at_3 rfl rfl ?_
  refine g_iconst X1 K (q := 5) (v := (0 : Int32)) at_4 (by decide) rfl ?_
  refine g_iconst X1 K (q := 6) (v := (1 : Int32)) at_5 (by decide) rfl ?_
  refine g_iconst X1 K (q := 7) (v := (2 : Int32)) at_6 (by decide) rfl ?_
  refine g_newp X1 K (q := 9) (cap := 2) (ty := .int) (vs := [(.int (0 : Int32)), (.int (0 : Int32))]) (w3 H) rfl e1 at_7 (by decide) (by decide) rfl (by decide) (by decide) (by decide) rfl ?_
  intro T2 h2 b2 kA2 X2 e2 E2 z2 A2
  have ge2 : Z.heap.size ≤ b2 := Nat.le_trans Ol1.2.1 (Nat.le_of_eq z2)
  have lk2 : b1 < b2 := Nat.lt_of_lt_of_eq A1.lt z2
  have Ol2 := Ol1.ext E2
  refine g_dup X2 K (q := 10) at_9 rfl rfl ?_
  refine g_iconst X2 K (q := 11) (v := (0 : Int32)) at_10 (by decide) rfl ?_
  refine g_iconst X2 K (q := 12) (v := (2 : Int32)) at_11 (by decide) rfl ?_
  refine g_iast X2 K (q := 13) (vs' := [(.int (2 : Int32)), (.int (0 : Int32))]) e2 A2 (by decide) (Nat.le_of_ble_eq_true rfl) rfl at_12 rfl ?_
  intro T3 h3 X3 e3 W3 F3
  have N3 := Fr.snoc X3 N0 ge2
  have Ol3 := Ol2.wr W3 ge2
  refine g_dup X3 K (q := 14) at_13 rfl rfl ?_
  refine g_iconst X3 K (q := 15) (v := (1 : Int32)) at_14 (by decide) rfl ?_
  refine g_iconst X3 K (q := 16) (v := (2 : Int32)) at_15 (by decide) rfl ?_
  refine g_iast X3 K (q := 17) (vs' := [(.int (2 : Int32)), (.int (2 : Int32))]) e3 F3 (by decide) (Nat.le_of_ble_eq_true rfl) rfl at_16 rfl ?_
  intro T4 h4 X4 e4 W4 F4
  have N4 := Fr.snoc X4 N3 ge2
  have Ol4 := Ol3.wr W4 ge2
  refine g_bipush X4 K (q := 19) (v := (14 : Int32)) at_17 (by decide) rfl ?_
  refine g_newp X4 K (q := 21) (cap := 14) (ty := .int) (vs := [(.int (0 : Int32)), (.int (0 : Int32)), (.int (0 : Int32)), (.int (0 : Int32)), (.int (0 : Int32)), (.int (0 : Int32)), (.int (0 : Int32)), (.int (0 : Int32)), (.int (0 : Int32)), (.int (0 : Int32)), (.int (0 : Int32)), (.int (0 : Int32)), (.int (0 : Int32)), (.int (0 : Int32))]) (w3 H) rfl e4 at_19 (by decide) (by decide) rfl (by decide) (by decide) (by decide) rfl ?_
  intro T5 h5 b5 kA5 X5 e5 E5 z5 A5
  have ge5 : Z.heap.size ≤ b5 := Nat.le_trans Ol4.2.1 (Nat.le_of_eq z5)
  have lk5 : b2 < b5 := Nat.lt_of_lt_of_eq F4.lt z5
  have Ol5 := Ol4.ext E5
  refine g_iconst X5 K (q := 22) (v := (3 : Int32)) at_21 (by decide) rfl ?_
  refine g_newp X5 K (q := 24) (cap := 3) (ty := .int) (vs := [(.int (0 : Int32)), (.int (0 : Int32)), (.int (0 : Int32))]) (w3 H) rfl e5 at_22 (by decide) (by decide) rfl (by decide) (by decide) (by decide) rfl ?_
  intro T6 h6 b6 kA6 X6 e6 E6 z6 A6
  have ge6 : Z.heap.size ≤ b6 := Nat.le_trans Ol5.2.1 (Nat.le_of_eq z6)
  have lk6 : b5 < b6 := Nat.lt_of_lt_of_eq A5.lt z6
  have Ol6 := Ol5.ext E6
  have f1 := (((((A1.ext E2).wr W3).wr W4).ext E5).ext E6)
  have ne1 : b1 ≠ b2 := (Nat.ne_of_lt lk2)
  have f2 := (((((F1_seat.ext E2).other W3 (Or.inl ne1)).other W4 (Or.inl ne1)).ext E5).ext E6)
  have f3 := (((((F1_copies.ext E2).other W3 (Or.inl ne1)).other W4 (Or.inl ne1)).ext E5).ext E6)
  have f4 := (((((F1_dealt.ext E2).other W3 (Or.inl ne1)).other W4 (Or.inl ne1)).ext E5).ext E6)
  have f5 := (((((F1_hand.ext E2).other W3 (Or.inl ne1)).other W4 (Or.inl ne1)).ext E5).ext E6)
  have f6 := (((((F1_moves.ext E2).other W3 (Or.inl ne1)).other W4 (Or.inl ne1)).ext E5).ext E6)
  have f7 := (((((F1_runStart.ext E2).other W3 (Or.inl ne1)).other W4 (Or.inl ne1)).ext E5).ext E6)
  have f8 := (((((F1_runEnd.ext E2).other W3 (Or.inl ne1)).other W4 (Or.inl ne1)).ext E5).ext E6)
  have ne2 : b1 ≠ b6 := (Nat.ne_of_lt (Nat.lt_trans lk2 (Nat.lt_trans lk5 lk6)))
  refine g_special X6 K (q := 27) (W := 1) (a := b1) rfl (w4 H) (w5 H) (w2 H) (w6 H) (by decide) (rm1_12 l H b1 b2 b5 b6 kA6 h6 Ol6 f1 f2 f3 f4 f5 f6 f7 f8 ge1 A6 (Ne.symm ne2)) e6 rfl (argsL := [(.int (0 : Int32)), (.int (1 : Int32)), (.ref b2), (.ref b5), (.ref b6)]) (rest := [(.ref b1)]) (lenOf pd_3 rfl) rfl rfl (Nat.le_of_eq rfl) at_24 (by decide) (by decide) (by decide) (by decide) rfl ?_
  rintro T7 v7 L7 X7 ⟨bx1, bx2, kB1, kB2, rfl, N7q, Kc7, lz7_0, lz7_1, g1, g2, g3, g4, g5, g6, g7, g8, g9, g10⟩
  have N7 := Fr.app N4 N7q
  have gebx1 : Z.heap.size ≤ bx1 := Nat.le_trans Ol6.2.1 lz7_0
  have lkbx1 : b6 < bx1 := Nat.lt_of_lt_of_le A6.lt lz7_0
  have gebx2 : Z.heap.size ≤ bx2 := Nat.le_trans gebx1 (Nat.le_of_lt lz7_1)
  have Ol7 := Ol6.keep Kc7 (allS ge1 all0)
  show Go p e below _ T7 (mkF m 27 #[.val (.int p0), .val (.int p1), .val (.int p2), .val (.int p3), .val (.int p4), .unset, .unset, .unset, .unset, .unset, .unset, .unset, .unset, .unset, .unset] [(.ref b1)])
  refine g_astore X7 K (q := 29) (L' := #[.val (.int p0), .val (.int p1), .val (.int p2), .val (.int p3), .val (.int p4), .val (.ref b1), .unset, .unset, .unset, .unset, .unset, .unset, .unset, .unset, .unset]) at_27 rfl rfl rfl ?_
  refine g_new X7 K (q := 32) (w35 H) (w36 H) (w37 H) rfl at_29 (by decide) (by decide) rfl ?_
  intro T8 h8 b8 X8 e8 E8 z8 A8 D8
  have ge8 : Z.heap.size ≤ b8 := Nat.le_trans Ol7.2.1 (Nat.le_of_eq z8)
  have lk8 : bx2 < b8 := Nat.lt_of_lt_of_eq g10.lt z8
  have Ol8 := Ol7.ext E8
  have F8_unclaimed : Fld Z h8 b8 "ludarium/rules/BrutusWalk" "unclaimed" "[I" .null := D8 (Or.inr (w43 H)) (ty := (.array .int)) (by decide)
  have F8_claimed : Fld Z h8 b8 "ludarium/rules/BrutusWalk" "claimed" "[Ljava/util/BitSet;" .null := D8 (Or.inr (w47 H)) (ty := (.array (.object "java/util/BitSet"))) (by decide)
  have F8_sight : Fld Z h8 b8 "ludarium/rules/BrutusWalk" "sight" "Lludarium/rules/BrutusSight;" .null := D8 (Or.inr (w49 H)) (ty := (.object "ludarium/rules/BrutusSight")) (by decide)
  have F8_seat : Fld Z h8 b8 "ludarium/rules/BrutusWalk" "seat" "I" (.int (0 : Int32)) := D8 (Or.inr (w56 H)) (ty := .int) (by decide)
  have F8_moved : Fld Z h8 b8 "ludarium/rules/BrutusWalk" "moved" "[I" .null := D8 (Or.inr (w63 H)) (ty := (.array .int)) (by decide)
  have F8_carried : Fld Z h8 b8 "ludarium/rules/BrutusWalk" "carried" "[Ljava/util/BitSet;" .null := D8 (Or.inr (w65 H)) (ty := (.array (.object "java/util/BitSet"))) (by decide)
  have F8_dealtTo : Fld Z h8 b8 "ludarium/rules/BrutusWalk" "dealtTo" "[I" .null := D8 (Or.inr (w77 H)) (ty := (.array .int)) (by decide)
  have F8_values : Fld Z h8 b8 "ludarium/rules/BrutusWalk" "values" "[I" .null := D8 (Or.inr (w79 H)) (ty := (.array .int)) (by decide)
  have F8_held : Fld Z h8 b8 "ludarium/rules/BrutusWalk" "held" "[[I" .null := D8 (Or.inr (w83 H)) (ty := (.array (.array .int))) (by decide)
  have F8_heldCount : Fld Z h8 b8 "ludarium/rules/BrutusWalk" "heldCount" "[I" .null := D8 (Or.inr (w85 H)) (ty := (.array .int)) (by decide)
  have F8_shaped : Fld Z h8 b8 "ludarium/rules/BrutusWalk" "shaped" "[Ljava/util/BitSet;" .null := D8 (Or.inr (w87 H)) (ty := (.array (.object "java/util/BitSet"))) (by decide)
  refine g_dup X8 K (q := 33) at_32 rfl rfl ?_
  refine g_aload X8 K (q := 35) at_33 rfl rfl rfl ?_
  have f9 := (g2.ext E8)
  have ne3 : b1 ≠ b8 := (Nat.ne_of_lt (Nat.lt_trans lk2 (Nat.lt_trans lk5 (Nat.lt_trans lk6 (Nat.lt_trans lkbx1 (Nat.lt_trans lz7_1 lk8))))))
  have f10 := (g1.ext E8)
  have f11 := (g6.ext E8)
  have f12 := ((A6.keep Kc7 (ninS (Ne.symm ne2) nin0)).ext E8)
  have ne4 : b6 ≠ b8 := (Nat.ne_of_lt (Nat.lt_trans lkbx1 (Nat.lt_trans lz7_1 lk8)))
  have f13 := (g4.ext E8)
  have f14 := ((((F4.ext E5).ext E6).keep Kc7 (ninS (Ne.symm ne1) nin0)).ext E8)
  have ne5 : b2 ≠ b8 := (Nat.ne_of_lt (Nat.lt_trans lk5 (Nat.lt_trans lk6 (Nat.lt_trans lkbx1 (Nat.lt_trans lz7_1 lk8)))))
  refine g_special X8 K (q := 38) (W := 1) (a := b8) rfl (w38 H) (w39 H) (w37 H) (w40 H) (by decide) (rm6_22 l H b8 b1 b6 kA6 b2 kA2 h8 Ol8 A8 F8_unclaimed F8_claimed F8_sight F8_seat F8_moved F8_carried F8_dealtTo F8_values F8_held F8_heldCount F8_shaped ge8 f9 ne3 f10 f11 f12 ne4 f13 f14 ne5) e8 rfl (argsL := [(.ref b1)]) (rest := [(.ref b8)]) (lenOf pd_6 rfl) rfl rfl (Nat.le_of_eq rfl) at_35 (by decide) (by decide) (by decide) (by decide) rfl ?_
  rintro T9 v9 L9 X9 ⟨bx3, bx4, bx5, bx6, bx7, bx8, bx9, bx10, bx11, bx12, bx13, kB3, kB4, kB5, kB6, kB7, kB8, kB9, kB10, kB11, kB12, kB13, rfl, N9q, Kc9, lz9_0, lz9_1, lz9_2, lz9_3, lz9_4, lz9_5, lz9_6, lz9_7, lz9_8, lz9_9, lz9_10, g11, g12, g13, g14, g15, g16, g17, g18, g19, g20, g21, g22, g23, g24, g25, g26, g27, g28, g29, g30, g31, g32, g33, g34, g35, g36⟩
  have N9 := Fr.app N7 N9q
  have gebx3 : Z.heap.size ≤ bx3 := Nat.le_trans Ol8.2.1 lz9_0
  have lkbx3 : b8 < bx3 := Nat.lt_of_lt_of_le A8.lt lz9_0
  have gebx4 : Z.heap.size ≤ bx4 := Nat.le_trans gebx3 (Nat.le_of_lt lz9_1)
  have gebx5 : Z.heap.size ≤ bx5 := Nat.le_trans gebx4 (Nat.le_of_lt lz9_2)
  have gebx6 : Z.heap.size ≤ bx6 := Nat.le_trans gebx5 (Nat.le_of_lt lz9_3)
  have gebx7 : Z.heap.size ≤ bx7 := Nat.le_trans gebx6 (Nat.le_of_lt lz9_4)
  have gebx8 : Z.heap.size ≤ bx8 := Nat.le_trans gebx7 (Nat.le_of_lt lz9_5)
  have gebx9 : Z.heap.size ≤ bx9 := Nat.le_trans gebx8 (Nat.le_of_lt lz9_6)
  have gebx10 : Z.heap.size ≤ bx10 := Nat.le_trans gebx9 (Nat.le_of_lt lz9_7)
  have gebx11 : Z.heap.size ≤ bx11 := Nat.le_trans gebx10 (Nat.le_of_lt lz9_8)
  have gebx12 : Z.heap.size ≤ bx12 := Nat.le_trans gebx11 (Nat.le_of_lt lz9_9)
  have gebx13 : Z.heap.size ≤ bx13 := Nat.le_trans gebx12 (Nat.le_of_lt lz9_10)
  have Ol9 := Ol8.keep Kc9 (allS ge8 all0)
  show Go p e below _ T9 (mkF m 38 #[.val (.int p0), .val (.int p1), .val (.int p2), .val (.int p3), .val (.int p4), .val (.ref b1), .unset, .unset, .unset, .unset, .unset, .unset, .unset, .unset, .unset] [(.ref b8)])
  refine g_astore X9 K (q := 40) (L' := #[.val (.int p0), .val (.int p1), .val (.int p2), .val (.int p3), .val (.int p4), .val (.ref b1), .val (.ref b8), .unset, .unset, .unset, .unset, .unset, .unset, .unset, .unset]) at_38 rfl rfl rfl ?_
  refine g_iloadN X9 K (q := 41) at_40 rfl rfl ?_
  refine g_iconst X9 K (q := 42) (v := (1 : Int32)) at_41 (by decide) rfl ?_
  rcases own_mk2 p1 with hs1 | hs1
  · refine g_iand X9 K (q := 43) (z := (0 : Int32)) at_42 hs1 rfl ?_
    refine g_istore X9 K (q := 45) (L' := #[.val (.int p0), .val (.int p1), .val (.int p2), .val (.int p3), .val (.int p4), .val (.ref b1), .val (.ref b8), .val (.int (0 : Int32)), .unset, .unset, .unset, .unset, .unset, .unset, .unset]) at_43 rfl rfl ?_
    refine g_iconst X9 K (q := 46) (v := (1 : Int32)) at_45 (by decide) rfl ?_
    refine g_iload X9 K (q := 48) at_46 rfl rfl ?_
    refine g_isub X9 K (q := 49) at_48 (z := (1 : Int32)) (by decide) rfl ?_
    refine g_istore X9 K (q := 51) (L' := #[.val (.int p0), .val (.int p1), .val (.int p2), .val (.int p3), .val (.int p4), .val (.ref b1), .val (.ref b8), .val (.int (0 : Int32)), .val (.int (1 : Int32)), .unset, .unset, .unset, .unset, .unset, .unset]) at_49 rfl rfl ?_
    refine g_iconst X9 K (q := 52) (v := (1 : Int32)) at_51 (by decide) rfl ?_
    refine g_iloadN X9 K (q := 53) at_52 rfl rfl ?_
    refine g_iconst X9 K (q := 54) (v := (1 : Int32)) at_53 (by decide) rfl ?_
    refine g_iushr X9 K (q := 55) at_54 rfl rfl ?_
    refine g_iconst X9 K (q := 56) (v := (3 : Int32)) at_55 (by decide) rfl ?_
    refine g_iand X9 K (q := 57) at_56 rfl rfl ?_
    obtain ⟨nn, hnn⟩ : ∃ z, (1 : Int32) + (((p1.toUInt32 >>> ((1 : Int32) &&& 31).toUInt32).toInt32) &&& (3 : Int32)) = z := ⟨_, rfl⟩
    have hN : nn = (1 : Int32) ∨ nn = (2 : Int32) ∨ nn = (3 : Int32) ∨ nn = (4 : Int32) := by rw [← hnn]; rcases own_mk4 ((p1.toUInt32 >>> ((1 : Int32) &&& 31).toUInt32).toInt32) with q | q | q | q <;> rw [q] <;> decide
    have hnz : nn ≠ 0 := by rcases hN with q | q | q | q <;> rw [q] <;> decide
    have hnp : 0 < nn.toInt := by rcases hN with q | q | q | q <;> rw [q] <;> decide
    refine g_iadd X9 K (q := 58) (z := nn) at_57 hnn rfl ?_
    refine g_istore X9 K (q := 60) (L' := #[.val (.int p0), .val (.int p1), .val (.int p2), .val (.int p3), .val (.int p4), .val (.ref b1), .val (.ref b8), .val (.int (0 : Int32)), .val (.int (1 : Int32)), .val (.int nn), .unset, .unset, .unset, .unset, .unset]) at_58 rfl rfl ?_
    refine g_iloadN X9 K (q := 61) at_60 rfl rfl ?_
    refine g_ldc X9 K (q := 63) (w89 H) at_61 rfl ?_
    refine g_iand X9 K (q := 64) at_63 rfl rfl ?_
    refine g_iload X9 K (q := 66) at_64 rfl rfl ?_
    have hAt := own_rem p2 (n := nn) (k := nn.toInt) rfl hnp
    obtain ⟨aa, haa⟩ : ∃ z, (p2 &&& (2147483647 : Int32)) % nn = z := ⟨_, rfl⟩
    rw [haa] at hAt
    refine g_irem X9 K (q := 67) (z := aa) at_66 hnz haa rfl ?_
    refine g_istore X9 K (q := 69) (L' := #[.val (.int p0), .val (.int p1), .val (.int p2), .val (.int p3), .val (.int p4), .val (.ref b1), .val (.ref b8), .val (.int (0 : Int32)), .val (.int (1 : Int32)), .val (.int nn), .val (.int aa), .unset, .unset, .unset, .unset]) at_67 rfl rfl ?_
    refine g_iloadN X9 K (q := 70) at_69 rfl rfl ?_
    refine g_ldc X9 K (q := 72) (w89 H) at_70 rfl ?_
    refine g_iand X9 K (q := 73) at_72 rfl rfl ?_
    refine g_iconst X9 K (q := 74) (v := (3 : Int32)) at_73 (by decide) rfl ?_
    have hI := own_sp3 p0
    obtain ⟨ii, hii⟩ : ∃ z, (p0 &&& (2147483647 : Int32)) % (3 : Int32) = z := ⟨_, rfl⟩
    rw [hii] at hI
    have hIb : ¬ ii < 0 ∧ ii < (3 : Int32) := by rcases hI with rfl | rfl | rfl <;> decide
    refine g_irem X9 K (q := 75) (z := ii) at_74 (by decide) hii rfl ?_
    refine g_istore X9 K (q := 77) (L' := #[.val (.int p0), .val (.int p1), .val (.int p2), .val (.int p3), .val (.int p4), .val (.ref b1), .val (.ref b8), .val (.int (0 : Int32)), .val (.int (1 : Int32)), .val (.int nn), .val (.int aa), .val (.int ii), .unset, .unset, .unset]) at_75 rfl rfl ?_
    refine g_aload X9 K (q := 79) at_77 rfl rfl rfl ?_
    refine g_getf X9 K (q := 82) (w90 H) Via.refl rfl g20 at_79 rfl ?_
    intro T10 X10 e10
    refine g_iload X10 K (q := 84) at_82 rfl rfl ?_
    refine g_aald X10 K (q := 85) (v := (.ref bx10)) e10 g31 rfl (by decide) rfl at_84 rfl ?_
    refine g_astore X10 K (q := 87) (L' := #[.val (.int p0), .val (.int p1), .val (.int p2), .val (.int p3), .val (.int p4), .val (.ref b1), .val (.ref b8), .val (.int (0 : Int32)), .val (.int (1 : Int32)), .val (.int nn), .val (.int aa), .val (.int ii), .val (.ref bx10), .unset, .unset]) at_85 rfl rfl rfl ?_
    refine g_aload X10 K (q := 89) at_87 rfl rfl rfl ?_
    refine g_getf X10 K (q := 92) (w90 H) Via.refl e10 g20 at_89 rfl ?_
    intro T11 X11 e11
    refine g_iload X11 K (q := 94) at_92 rfl rfl ?_
    refine g_aald X11 K (q := 95) (v := (.ref bx11)) e11 g31 rfl (by decide) rfl at_94 rfl ?_
    refine g_astore X11 K (q := 97) (L' := #[.val (.int p0), .val (.int p1), .val (.int p2), .val (.int p3), .val (.int p4), .val (.ref b1), .val (.ref b8), .val (.int (0 : Int32)), .val (.int (1 : Int32)), .val (.int nn), .val (.int aa), .val (.int ii), .val (.ref bx10), .val (.ref bx11), .unset]) at_95 rfl rfl rfl ?_
    refine g_aload X11 K (q := 99) at_97 rfl rfl rfl ?_
    refine g_iconst X11 K (q := 100) (v := (0 : Int32)) at_99 (by decide) rfl ?_
    refine g_iloadN X11 K (q := 101) at_100 rfl rfl ?_
    refine g_iast X11 K (q := 102) (vs' := [(.int p3), (.int (0 : Int32)), (.int (0 : Int32)), (.int (0 : Int32))]) e11 g32 (by decide) (Nat.le_of_ble_eq_true rfl) rfl at_101 rfl ?_
    intro T12 h12 X12 e12 W12 F12
    have N12 := Fr.snoc X12 N9 gebx10
    have Ol12 := Ol9.wr W12 gebx10
    refine g_aload X12 K (q := 104) at_102 rfl rfl rfl ?_
    refine g_iconst X12 K (q := 105) (v := (1 : Int32)) at_104 (by decide) rfl ?_
    refine g_iloadN X12 K (q := 106) at_105 rfl rfl ?_
    refine g_iconst X12 K (q := 107) (v := (1 : Int32)) at_106 (by decide) rfl ?_
    refine g_iadd X12 K (q := 108) at_107 rfl rfl ?_
    refine g_iast X12 K (q := 109) (vs' := [(.int p3), (.int (p3 + (1 : Int32))), (.int (0 : Int32)), (.int (0 : Int32))]) e12 F12 (by decide) (Nat.le_of_ble_eq_true rfl) rfl at_108 rfl ?_
    intro T13 h13 X13 e13 W13 F13
    have N13 := Fr.snoc X13 N12 gebx10
    have Ol13 := Ol12.wr W13 gebx10
    refine g_aload X13 K (q := 111) at_109 rfl rfl rfl ?_
    refine g_iconst X13 K (q := 112) (v := (2 : Int32)) at_111 (by decide) rfl ?_
    refine g_iloadN X13 K (q := 113) at_112 rfl rfl ?_
    refine g_iconst X13 K (q := 114) (v := (2 : Int32)) at_113 (by decide) rfl ?_
    refine g_iadd X13 K (q := 115) at_114 rfl rfl ?_
    refine g_iast X13 K (q := 116) (vs' := [(.int p3), (.int (p3 + (1 : Int32))), (.int (p3 + (2 : Int32))), (.int (0 : Int32))]) e13 F13 (by decide) (Nat.le_of_ble_eq_true rfl) rfl at_115 rfl ?_
    intro T14 h14 X14 e14 W14 F14
    have N14 := Fr.snoc X14 N13 gebx10
    have Ol14 := Ol13.wr W14 gebx10
    refine g_aload X14 K (q := 118) at_116 rfl rfl rfl ?_
    refine g_iconst X14 K (q := 119) (v := (3 : Int32)) at_118 (by decide) rfl ?_
    refine g_iloadN X14 K (q := 120) at_119 rfl rfl ?_
    refine g_iconst X14 K (q := 121) (v := (3 : Int32)) at_120 (by decide) rfl ?_
    refine g_iadd X14 K (q := 122) at_121 rfl rfl ?_
    refine g_iast X14 K (q := 123) (vs' := [(.int p3), (.int (p3 + (1 : Int32))), (.int (p3 + (2 : Int32))), (.int (p3 + (3 : Int32)))]) e14 F14 (by decide) (Nat.le_of_ble_eq_true rfl) rfl at_122 rfl ?_
    intro T15 h15 X15 e15 W15 F15
    have N15 := Fr.snoc X15 N14 gebx10
    have Ol15 := Ol14.wr W15 gebx10
    refine g_aload X15 K (q := 125) at_123 rfl rfl rfl ?_
    refine g_iconst X15 K (q := 126) (v := (0 : Int32)) at_125 (by decide) rfl ?_
    refine g_iload X15 K (q := 128) at_126 rfl rfl ?_
    have ne6 : bx10 ≠ bx11 := (Nat.ne_of_lt lz9_8)
    have f15 := ((((g33.other W12 (Ne.symm ne6)).other W13 (Ne.symm ne6)).other W14 (Ne.symm ne6)).other W15 (Ne.symm ne6))
    refine g_iast X15 K (q := 129) (vs' := [(.int p4), (.int (0 : Int32)), (.int (0 : Int32)), (.int (0 : Int32))]) e15 f15 (by decide) (Nat.le_of_ble_eq_true rfl) rfl at_128 rfl ?_
    intro T16 h16 X16 e16 W16 F16
    have N16 := Fr.snoc X16 N15 gebx11
    have Ol16 := Ol15.wr W16 gebx11
    refine g_aload X16 K (q := 131) at_129 rfl rfl rfl ?_
    refine g_iconst X16 K (q := 132) (v := (1 : Int32)) at_131 (by decide) rfl ?_
    refine g_iload X16 K (q := 134) at_132 rfl rfl ?_
    refine g_iconst X16 K (q := 135) (v := (1 : Int32)) at_134 (by decide) rfl ?_
    refine g_iadd X16 K (q := 136) at_135 rfl rfl ?_
    refine g_iast X16 K (q := 137) (vs' := [(.int p4), (.int (p4 + (1 : Int32))), (.int (0 : Int32)), (.int (0 : Int32))]) e16 F16 (by decide) (Nat.le_of_ble_eq_true rfl) rfl at_136 rfl ?_
    intro T17 h17 X17 e17 W17 F17
    have N17 := Fr.snoc X17 N16 gebx11
    have Ol17 := Ol16.wr W17 gebx11
    refine g_aload X17 K (q := 139) at_137 rfl rfl rfl ?_
    refine g_iconst X17 K (q := 140) (v := (2 : Int32)) at_139 (by decide) rfl ?_
    refine g_iload X17 K (q := 142) at_140 rfl rfl ?_
    refine g_iconst X17 K (q := 143) (v := (2 : Int32)) at_142 (by decide) rfl ?_
    refine g_iadd X17 K (q := 144) at_143 rfl rfl ?_
    refine g_iast X17 K (q := 145) (vs' := [(.int p4), (.int (p4 + (1 : Int32))), (.int (p4 + (2 : Int32))), (.int (0 : Int32))]) e17 F17 (by decide) (Nat.le_of_ble_eq_true rfl) rfl at_144 rfl ?_
    intro T18 h18 X18 e18 W18 F18
    have N18 := Fr.snoc X18 N17 gebx11
    have Ol18 := Ol17.wr W18 gebx11
    refine g_aload X18 K (q := 147) at_145 rfl rfl rfl ?_
    refine g_iconst X18 K (q := 148) (v := (3 : Int32)) at_147 (by decide) rfl ?_
    refine g_iload X18 K (q := 150) at_148 rfl rfl ?_
    refine g_iconst X18 K (q := 151) (v := (3 : Int32)) at_150 (by decide) rfl ?_
    refine g_iadd X18 K (q := 152) at_151 rfl rfl ?_
    refine g_iast X18 K (q := 153) (vs' := [(.int p4), (.int (p4 + (1 : Int32))), (.int (p4 + (2 : Int32))), (.int (p4 + (3 : Int32)))]) e18 F18 (by decide) (Nat.le_of_ble_eq_true rfl) rfl at_152 rfl ?_
    intro T19 h19 X19 e19 W19 F19
    have N19 := Fr.snoc X19 N18 gebx11
    have Ol19 := Ol18.wr W19 gebx11
    refine g_aload X19 K (q := 155) at_153 rfl rfl rfl ?_
    have ne7 : b8 ≠ bx10 := (Nat.ne_of_lt (Nat.lt_trans lkbx3 (Nat.lt_trans lz9_1 (Nat.lt_trans lz9_2 (Nat.lt_trans lz9_3 (Nat.lt_trans lz9_4 (Nat.lt_trans lz9_5 (Nat.lt_trans lz9_6 lz9_7))))))))
    have ne8 : b8 ≠ bx11 := (Nat.ne_of_lt (Nat.lt_trans lkbx3 (Nat.lt_trans lz9_1 (Nat.lt_trans lz9_2 (Nat.lt_trans lz9_3 (Nat.lt_trans lz9_4 (Nat.lt_trans lz9_5 (Nat.lt_trans lz9_6 (Nat.lt_trans lz9_7 lz9_8)))))))))
    have f16 := ((((((((g21.other W12 (Or.inl ne7)).other W13 (Or.inl ne7)).other W14 (Or.inl ne7)).other W15 (Or.inl ne7)).other W16 (Or.inl ne8)).other W17 (Or.inl ne8)).other W18 (Or.inl ne8)).other W19 (Or.inl ne8))
    refine g_getf X19 K (q := 158) (w91 H) Via.refl e19 f16 at_155 rfl ?_
    intro T20 X20 e20
    refine g_iload X20 K (q := 160) at_158 rfl rfl ?_
    refine g_iload X20 K (q := 162) at_160 rfl rfl ?_
    have ne9 : bx10 ≠ bx12 := (Nat.ne_of_lt (Nat.lt_trans lz9_8 lz9_9))
    have ne10 : bx11 ≠ bx12 := (Nat.ne_of_lt lz9_9)
    have f17 := ((((((((g34.other W12 (Ne.symm ne9)).other W13 (Ne.symm ne9)).other W14 (Ne.symm ne9)).other W15 (Ne.symm ne9)).other W16 (Ne.symm ne10)).other W17 (Ne.symm ne10)).other W18 (Ne.symm ne10)).other W19 (Ne.symm ne10))
    refine g_iast X20 K (q := 163) (vs' := [(.int nn), (.int (0 : Int32))]) e20 f17 (by decide) (Nat.le_of_ble_eq_true rfl) rfl at_162 rfl ?_
    intro T21 h21 X21 e21 W21 F21
    have N21 := Fr.snoc X21 N19 gebx12
    have Ol21 := Ol19.wr W21 gebx12
    refine g_aload X21 K (q := 165) at_163 rfl rfl rfl ?_
    have ne11 : b8 ≠ bx12 := (Nat.ne_of_lt (Nat.lt_trans lkbx3 (Nat.lt_trans lz9_1 (Nat.lt_trans lz9_2 (Nat.lt_trans lz9_3 (Nat.lt_trans lz9_4 (Nat.lt_trans lz9_5 (Nat.lt_trans lz9_6 (Nat.lt_trans lz9_7 (Nat.lt_trans lz9_8 lz9_9))))))))))
    have f18 := (f16.other W21 (Or.inl ne11))
    refine g_getf X21 K (q := 168) (w91 H) Via.refl e21 f18 at_165 rfl ?_
    intro T22 X22 e22
    refine g_iload X22 K (q := 170) at_168 rfl rfl ?_
    refine g_iconst X22 K (q := 171) (v := (4 : Int32)) at_170 (by decide) rfl ?_
    refine g_iast X22 K (q := 172) (vs' := [(.int nn), (.int (4 : Int32))]) e22 F21 (by decide) (Nat.le_of_ble_eq_true rfl) rfl at_171 rfl ?_
    intro T23 h23 X23 e23 W23 F23
    have N23 := Fr.snoc X23 N21 gebx12
    have Ol23 := Ol21.wr W23 gebx12
    refine g_aload X23 K (q := 174) at_172 rfl rfl rfl ?_
    refine g_iload X23 K (q := 176) at_174 rfl rfl ?_
    refine g_iload X23 K (q := 178) at_176 rfl rfl ?_
    refine g_iload X23 K (q := 180) at_178 rfl rfl ?_
    have ne12 : bx5 ≠ bx10 := (Nat.ne_of_lt (Nat.lt_trans lz9_3 (Nat.lt_trans lz9_4 (Nat.lt_trans lz9_5 (Nat.lt_trans lz9_6 lz9_7)))))
    have ne13 : bx5 ≠ bx11 := (Nat.ne_of_lt (Nat.lt_trans lz9_3 (Nat.lt_trans lz9_4 (Nat.lt_trans lz9_5 (Nat.lt_trans lz9_6 (Nat.lt_trans lz9_7 lz9_8))))))
    have ne14 : bx5 ≠ bx12 := (Nat.ne_of_lt (Nat.lt_trans lz9_3 (Nat.lt_trans lz9_4 (Nat.lt_trans lz9_5 (Nat.lt_trans lz9_6 (Nat.lt_trans lz9_7 (Nat.lt_trans lz9_8 lz9_9)))))))
    have f19 := ((((((((((g26.other W12 ne12).other W13 ne12).other W14 ne12).other W15 ne12).other W16 ne13).other W17 ne13).other W18 ne13).other W19 ne13).other W21 ne14).other W23 ne14)
    have f20 := ((((((F15.other W16 ne6).other W17 ne6).other W18 ne6).other W19 ne6).other W21 ne9).other W23 ne9)
    have jt : ∀ (Tj : State) (Lj : List Loc) (mv : List Value) (m0 m1 m2 m3 : Int32), Stand p l e room_1 s m #[(.int p0), (.int p1), (.int p2), (.int p3), (.int p4)] below meth c Tj Lj 18 107 → Fr Z.heap.size Lj → Keep h23 Tj.heap [bx5, bx12, bx10] → Arv Z Tj.heap bx5 kB5 .int (3 : Int32) mv (.int (0 : Int32)) → Arv Z Tj.heap bx12 kB12 .int (2 : Int32) [(.int (nn - (1 : Int32))), (.int (4 : Int32))] (.int (0 : Int32)) → Arv Z Tj.heap bx10 kB11 .int (4 : Int32) [(.int m0), (.int m1), (.int m2), (.int m3)] (.int (0 : Int32)) → mv.getD ii.toNatClampNeg (Value.int (0 : Int32)) = .int (p3 + aa) → mv.getD ((ii + (1 : Int32)) % (3 : Int32)).toNatClampNeg (Value.int (0 : Int32)) = .int (0 : Int32) → mv.getD ((ii + (2 : Int32)) % (3 : Int32)).toNatClampNeg (Value.int (0 : Int32)) = .int (0 : Int32) → SlotOK (0 : Int32) nn aa p3 m0 → SlotOK (1 : Int32) nn aa p3 m1 → SlotOK (2 : Int32) nn aa p3 m2 → SlotOK (3 : Int32) nn aa p3 m3 → Go p e below (Done s below (fun v h L => v = some (.int 1) ∧ Fr Z.heap.size L) room_1.cells room_1.slots) Tj (mkF m 183 #[.val (.int p0), .val (.int p1), .val (.int p2), .val (.int p3), .val (.int p4), .val (.ref b1), .val (.ref b8), .val (.int (0 : Int32)), .val (.int (1 : Int32)), .val (.int nn), .val (.int aa), .val (.int ii), .val (.ref bx10), .val (.ref bx11), .unset] []) := by
      intro Tj Lj mv m0 m1 m2 m3 Xj Nj Kj Am Ah An hm0 hm1 hm2 ok0 ok1 ok2 ok3
      have Olj := Ol23.keep Kj (allS gebx5 (allS gebx12 (allS gebx10 all0)))
      refine g_aload Xj K (q := 185) at_183 rfl rfl rfl ?_
      have ne15 : b8 ≠ bx5 := (Nat.ne_of_lt (Nat.lt_trans lkbx3 (Nat.lt_trans lz9_1 lz9_2)))
      have f21 := ((f18.other W23 (Or.inl ne11)).keep Kj (ninS ne15 (ninS ne11 (ninS ne7 nin0))))
      refine g_getf Xj K (q := 188) (w91 H) Via.refl rfl f21 at_185 rfl ?_
      intro T24 X24 e24
      refine g_iload X24 K (q := 190) at_188 rfl rfl ?_
      refine g_iald X24 K (q := 191) (v := (.int (nn - (1 : Int32)))) e24 Ah (by decide) rfl at_190 rfl ?_
      refine g_iload X24 K (q := 193) at_191 rfl rfl ?_
      refine g_iconst X24 K (q := 194) (v := (1 : Int32)) at_193 (by decide) rfl ?_
      refine g_isub X24 K (q := 195) at_194 rfl rfl ?_
      refine g_icN X24 K (q := 198) at_195 (teq rfl).2 rfl ?_
      refine g_aload X24 K (q := 200) at_198 rfl rfl rfl ?_
      refine g_getf X24 K (q := 203) (w91 H) Via.refl e24 f21 at_200 rfl ?_
      intro T25 X25 e25
      refine g_iload X25 K (q := 205) at_203 rfl rfl ?_
      refine g_iald X25 K (q := 206) (v := (.int (4 : Int32))) e25 Ah (by decide) rfl at_205 rfl ?_
      refine g_iconst X25 K (q := 207) (v := (4 : Int32)) at_206 (by decide) rfl ?_
      refine g_icN X25 K (q := 210) at_207 (by decide) rfl ?_
      refine g_aload X25 K (q := 212) at_210 rfl rfl rfl ?_
      have f22 := (((((((((((g16.other W12 (Or.inl ne7)).other W13 (Or.inl ne7)).other W14 (Or.inl ne7)).other W15 (Or.inl ne7)).other W16 (Or.inl ne8)).other W17 (Or.inl ne8)).other W18 (Or.inl ne8)).other W19 (Or.inl ne8)).other W21 (Or.inl ne11)).other W23 (Or.inl ne11)).keep Kj (ninS ne15 (ninS ne11 (ninS ne7 nin0))))
      refine g_getf X25 K (q := 215) (w97 H) Via.refl e25 f22 at_212 rfl ?_
      intro T26 X26 e26
      refine g_iload X26 K (q := 217) at_215 rfl rfl ?_
      refine g_iald X26 K (q := 218) (v := (.int (p3 + aa))) e26 Am hIb hm0 at_217 rfl ?_
      refine g_iloadN X26 K (q := 219) at_218 rfl rfl ?_
      refine g_iload X26 K (q := 221) at_219 rfl rfl ?_
      refine g_iadd X26 K (q := 222) at_221 rfl rfl ?_
      refine g_icN X26 K (q := 225) at_222 (teq rfl).2 rfl ?_
      refine g_aload X26 K (q := 227) at_225 rfl rfl rfl ?_
      refine g_getf X26 K (q := 230) (w97 H) Via.refl e26 f22 at_227 rfl ?_
      intro T27 X27 e27
      refine g_iload X27 K (q := 232) at_230 rfl rfl ?_
      refine g_iconst X27 K (q := 233) (v := (1 : Int32)) at_232 (by decide) rfl ?_
      refine g_iadd X27 K (q := 234) at_233 rfl rfl ?_
      refine g_iconst X27 K (q := 235) (v := (3 : Int32)) at_234 (by decide) rfl ?_
      refine g_irem X27 K (q := 236) at_235 (by decide) rfl rfl ?_
      refine g_iald X27 K (q := 237) (v := (.int (0 : Int32))) e27 Am (by rcases hI with rfl | rfl | rfl <;> decide) hm1 at_236 rfl ?_
      refine g_ifN X27 K (q := 240) at_237 (by decide) rfl ?_
      refine g_aload X27 K (q := 242) at_240 rfl rfl rfl ?_
      refine g_getf X27 K (q := 245) (w97 H) Via.refl e27 f22 at_242 rfl ?_
      intro T28 X28 e28
      refine g_iload X28 K (q := 247) at_245 rfl rfl ?_
      refine g_iconst X28 K (q := 248) (v := (2 : Int32)) at_247 (by decide) rfl ?_
      refine g_iadd X28 K (q := 249) at_248 rfl rfl ?_
      refine g_iconst X28 K (q := 250) (v := (3 : Int32)) at_249 (by decide) rfl ?_
      refine g_irem X28 K (q := 251) at_250 (by decide) rfl rfl ?_
      refine g_iald X28 K (q := 252) (v := (.int (0 : Int32))) e28 Am (by rcases hI with rfl | rfl | rfl <;> decide) hm2 at_251 rfl ?_
      refine g_ifN X28 K (q := 255) at_252 (by decide) rfl ?_
      refine g_iconst X28 K (q := 256) (v := (1 : Int32)) at_255 (by decide) rfl ?_
      refine g_goto X28 K (q := 260) at_256 (by decide) (by decide) ?_
      refine g_istore X28 K (q := 262) (L' := #[.val (.int p0), .val (.int p1), .val (.int p2), .val (.int p3), .val (.int p4), .val (.ref b1), .val (.ref b8), .val (.int (0 : Int32)), .val (.int (1 : Int32)), .val (.int nn), .val (.int aa), .val (.int ii), .val (.ref bx10), .val (.ref bx11), .val (.int (1 : Int32))]) at_260 rfl rfl ?_
      refine g_iload X28 K (q := 264) at_262 rfl rfl ?_
      refine g_ifN X28 K (q := 267) at_264 (by decide) rfl ?_
      refine g_aload X28 K (q := 269) at_267 rfl rfl rfl ?_
      refine g_iconst X28 K (q := 270) (v := (0 : Int32)) at_269 (by decide) rfl ?_
      refine g_iload X28 K (q := 272) at_270 rfl rfl ?_
      refine g_iload X28 K (q := 274) at_272 rfl rfl ?_
      refine g_iloadN X28 K (q := 275) at_274 rfl rfl ?_
      refine g_static X28 K (q := 278) (W := 0) (w98 H) (w99 H) (w100 H) (w101 H) (by decide) (rm12_23 l H bx10 nn aa p3 m0 m1 m2 m3 kB11 Tj.heap Olj An ok0) e28 rfl (argsL := [(.ref bx10), (.int (0 : Int32)), (.int nn), (.int aa), (.int p3)]) (rest := []) (lenOf pd_7 rfl) rfl rfl (Nat.le_of_eq rfl) at_275 (by decide) (by decide) (by decide) (by decide) rfl ?_
      rintro T29 v29 L29 X29 ⟨rfl, N29q, e29⟩
      have N29 := Fr.app Nj N29q
      show Go p e below _ T29 (mkF m 278 #[.val (.int p0), .val (.int p1), .val (.int p2), .val (.int p3), .val (.int p4), .val (.ref b1), .val (.ref b8), .val (.int (0 : Int32)), .val (.int (1 : Int32)), .val (.int nn), .val (.int aa), .val (.int ii), .val (.ref bx10), .val (.ref bx11), .val (.int (1 : Int32))] [(.int (1 : Int32))])
      refine g_ifN X29 K (q := 281) at_278 (by decide) rfl ?_
      refine g_aload X29 K (q := 283) at_281 rfl rfl rfl ?_
      refine g_iconst X29 K (q := 284) (v := (1 : Int32)) at_283 (by decide) rfl ?_
      refine g_iload X29 K (q := 286) at_284 rfl rfl ?_
      refine g_iload X29 K (q := 288) at_286 rfl rfl ?_
      refine g_iloadN X29 K (q := 289) at_288 rfl rfl ?_
      refine g_static X29 K (q := 292) (W := 0) (w98 H) (w99 H) (w100 H) (w101 H) (by decide) (rm12_24 l H bx10 nn aa p3 m0 m1 m2 m3 kB11 Tj.heap Olj An ok1) e29 rfl (argsL := [(.ref bx10), (.int (1 : Int32)), (.int nn), (.int aa), (.int p3)]) (rest := []) (lenOf pd_7 rfl) rfl rfl (Nat.le_of_eq rfl) at_289 (by decide) (by decide) (by decide) (by decide) rfl ?_
      rintro T30 v30 L30 X30 ⟨rfl, N30q, e30⟩
      have N30 := Fr.app N29 N30q
      show Go p e below _ T30 (mkF m 292 #[.val (.int p0), .val (.int p1), .val (.int p2), .val (.int p3), .val (.int p4), .val (.ref b1), .val (.ref b8), .val (.int (0 : Int32)), .val (.int (1 : Int32)), .val (.int nn), .val (.int aa), .val (.int ii), .val (.ref bx10), .val (.ref bx11), .val (.int (1 : Int32))] [(.int (1 : Int32))])
      refine g_ifN X30 K (q := 295) at_292 (by decide) rfl ?_
      refine g_aload X30 K (q := 297) at_295 rfl rfl rfl ?_
      refine g_iconst X30 K (q := 298) (v := (2 : Int32)) at_297 (by decide) rfl ?_
      refine g_iload X30 K (q := 300) at_298 rfl rfl ?_
      refine g_iload X30 K (q := 302) at_300 rfl rfl ?_
      refine g_iloadN X30 K (q := 303) at_302 rfl rfl ?_
      refine g_static X30 K (q := 306) (W := 0) (w98 H) (w99 H) (w100 H) (w101 H) (by decide) (rm12_25 l H bx10 nn aa p3 m0 m1 m2 m3 kB11 Tj.heap Olj An ok2) e30 rfl (argsL := [(.ref bx10), (.int (2 : Int32)), (.int nn), (.int aa), (.int p3)]) (rest := []) (lenOf pd_7 rfl) rfl rfl (Nat.le_of_eq rfl) at_303 (by decide) (by decide) (by decide) (by decide) rfl ?_
      rintro T31 v31 L31 X31 ⟨rfl, N31q, e31⟩
      have N31 := Fr.app N30 N31q
      show Go p e below _ T31 (mkF m 306 #[.val (.int p0), .val (.int p1), .val (.int p2), .val (.int p3), .val (.int p4), .val (.ref b1), .val (.ref b8), .val (.int (0 : Int32)), .val (.int (1 : Int32)), .val (.int nn), .val (.int aa), .val (.int ii), .val (.ref bx10), .val (.ref bx11), .val (.int (1 : Int32))] [(.int (1 : Int32))])
      refine g_ifN X31 K (q := 309) at_306 (by decide) rfl ?_
      refine g_aload X31 K (q := 311) at_309 rfl rfl rfl ?_
      refine g_iconst X31 K (q := 312) (v := (3 : Int32)) at_311 (by decide) rfl ?_
      refine g_iload X31 K (q := 314) at_312 rfl rfl ?_
      refine g_iload X31 K (q := 316) at_314 rfl rfl ?_
      refine g_iloadN X31 K (q := 317) at_316 rfl rfl ?_
      refine g_static X31 K (q := 320) (W := 0) (w98 H) (w99 H) (w100 H) (w101 H) (by decide) (rm12_26 l H bx10 nn aa p3 m0 m1 m2 m3 kB11 Tj.heap Olj An ok3) e31 rfl (argsL := [(.ref bx10), (.int (3 : Int32)), (.int nn), (.int aa), (.int p3)]) (rest := []) (lenOf pd_7 rfl) rfl rfl (Nat.le_of_eq rfl) at_317 (by decide) (by decide) (by decide) (by decide) rfl ?_
      rintro T32 v32 L32 X32 ⟨rfl, N32q, e32⟩
      have N32 := Fr.app N31 N32q
      show Go p e below _ T32 (mkF m 320 #[.val (.int p0), .val (.int p1), .val (.int p2), .val (.int p3), .val (.int p4), .val (.ref b1), .val (.ref b8), .val (.int (0 : Int32)), .val (.int (1 : Int32)), .val (.int nn), .val (.int aa), .val (.int ii), .val (.ref bx10), .val (.ref bx11), .val (.int (1 : Int32))] [(.int (1 : Int32))])
      refine g_ifN X32 K (q := 323) at_320 (by decide) rfl ?_
      refine g_iconst X32 K (q := 324) (v := (1 : Int32)) at_323 (by decide) rfl ?_
      refine g_goto X32 K (q := 328) at_324 (by decide) (by decide) ?_
      refine g_istore X32 K (q := 330) (L' := #[.val (.int p0), .val (.int p1), .val (.int p2), .val (.int p3), .val (.int p4), .val (.ref b1), .val (.ref b8), .val (.int (0 : Int32)), .val (.int (1 : Int32)), .val (.int nn), .val (.int aa), .val (.int ii), .val (.ref bx10), .val (.ref bx11), .val (.int (1 : Int32))]) at_328 rfl rfl ?_
      refine g_iload X32 K (q := 332) at_330 rfl rfl ?_
      refine g_ifN X32 K (q := 335) at_332 (by decide) rfl ?_
      refine g_aload X32 K (q := 337) at_335 rfl rfl rfl ?_
      refine g_iconst X32 K (q := 338) (v := (0 : Int32)) at_337 (by decide) rfl ?_
      have f23 := (((F19.other W21 ne10).other W23 ne10).keep Kj (ninS (Ne.symm ne13) (ninS ne10 (ninS (Ne.symm ne6) nin0))))
      refine g_iald X32 K (q := 339) (v := (.int p4)) e32 f23 (by decide) rfl at_338 rfl ?_
      refine g_iload X32 K (q := 341) at_339 rfl rfl ?_
      refine g_icN X32 K (q := 344) at_341 (teq rfl).2 rfl ?_
      refine g_aload X32 K (q := 346) at_344 rfl rfl rfl ?_
      refine g_iconst X32 K (q := 347) (v := (1 : Int32)) at_346 (by decide) rfl ?_
      refine g_iald X32 K (q := 348) (v := (.int (p4 + (1 : Int32)))) e32 f23 (by decide) rfl at_347 rfl ?_
      refine g_iload X32 K (q := 350) at_348 rfl rfl ?_
      refine g_iconst X32 K (q := 351) (v := (1 : Int32)) at_350 (by decide) rfl ?_
      refine g_iadd X32 K (q := 352) at_351 rfl rfl ?_
      refine g_icN X32 K (q := 355) at_352 (teq rfl).2 rfl ?_
      refine g_aload X32 K (q := 357) at_355 rfl rfl rfl ?_
      refine g_iconst X32 K (q := 358) (v := (2 : Int32)) at_357 (by decide) rfl ?_
      refine g_iald X32 K (q := 359) (v := (.int (p4 + (2 : Int32)))) e32 f23 (by decide) rfl at_358 rfl ?_
      refine g_iload X32 K (q := 361) at_359 rfl rfl ?_
      refine g_iconst X32 K (q := 362) (v := (2 : Int32)) at_361 (by decide) rfl ?_
      refine g_iadd X32 K (q := 363) at_362 rfl rfl ?_
      refine g_icN X32 K (q := 366) at_363 (teq rfl).2 rfl ?_
      refine g_aload X32 K (q := 368) at_366 rfl rfl rfl ?_
      refine g_iconst X32 K (q := 369) (v := (3 : Int32)) at_368 (by decide) rfl ?_
      refine g_iald X32 K (q := 370) (v := (.int (p4 + (3 : Int32)))) e32 f23 (by decide) rfl at_369 rfl ?_
      refine g_iload X32 K (q := 372) at_370 rfl rfl ?_
      refine g_iconst X32 K (q := 373) (v := (3 : Int32)) at_372 (by decide) rfl ?_
      refine g_iadd X32 K (q := 374) at_373 rfl rfl ?_
      refine g_icN X32 K (q := 377) at_374 (teq rfl).2 rfl ?_
      refine g_iconst X32 K (q := 378) (v := (1 : Int32)) at_377 (by decide) rfl ?_
      refine g_goto X32 K (q := 382) at_378 (by decide) (by decide) ?_
      refine g_istore X32 K (q := 384) (L' := #[.val (.int p0), .val (.int p1), .val (.int p2), .val (.int p3), .val (.int p4), .val (.ref b1), .val (.ref b8), .val (.int (0 : Int32)), .val (.int (1 : Int32)), .val (.int nn), .val (.int aa), .val (.int ii), .val (.ref bx10), .val (.ref bx11), .val (.int (1 : Int32))]) at_382 rfl rfl ?_
      refine g_iload X32 K (q := 386) at_384 rfl rfl ?_
      refine g_nret X32 K (by simp) (z' := (1 : Int32)) (by decide) at_386 (by decide) (by decide) ?_
      exact ⟨rfl, N32⟩
    rcases hN with rfl | rfl | rfl | rfl
    · have hA : aa = (0 : Int32) := by
        have z : (1 : Int32).toInt = 1 := rfl
        rw [z] at hAt
        have q : aa.toInt = 0 := by omega
        rcases q with q
        · exact (own_lit q (by decide))
      rcases hA with rfl
      · have f24 := ((((((((((g16.other W12 (Or.inl ne7)).other W13 (Or.inl ne7)).other W14 (Or.inl ne7)).other W15 (Or.inl ne7)).other W16 (Or.inl ne8)).other W17 (Or.inl ne8)).other W18 (Or.inl ne8)).other W19 (Or.inl ne8)).other W21 (Or.inl ne11)).other W23 (Or.inl ne11))
        have f25 := ((((((((((g20.other W12 (Or.inl ne7)).other W13 (Or.inl ne7)).other W14 (Or.inl ne7)).other W15 (Or.inl ne7)).other W16 (Or.inl ne8)).other W17 (Or.inl ne8)).other W18 (Or.inl ne8)).other W19 (Or.inl ne8)).other W21 (Or.inl ne11)).other W23 (Or.inl ne11))
        have ne16 : bx9 ≠ bx10 := (Nat.ne_of_lt lz9_7)
        have ne17 : bx9 ≠ bx11 := (Nat.ne_of_lt (Nat.lt_trans lz9_7 lz9_8))
        have ne18 : bx9 ≠ bx12 := (Nat.ne_of_lt (Nat.lt_trans lz9_7 (Nat.lt_trans lz9_8 lz9_9)))
        have f26 := ((((((((((g31.other W12 ne16).other W13 ne16).other W14 ne16).other W15 ne16).other W16 ne17).other W17 ne17).other W18 ne17).other W19 ne17).other W21 ne18).other W23 ne18)
        have f27 := (f18.other W23 (Or.inl ne11))
        have ne19 : b8 ≠ bx5 := (Nat.ne_of_lt (Nat.lt_trans lkbx3 (Nat.lt_trans lz9_1 lz9_2)))
        have ne20 : bx5 ≠ bx9 := (Nat.ne_of_lt (Nat.lt_trans lz9_3 (Nat.lt_trans lz9_4 (Nat.lt_trans lz9_5 lz9_6))))
        have f28 := ((((((((((g11.wr W12).wr W13).wr W14).wr W15).wr W16).wr W17).wr W18).wr W19).wr W21).wr W23)
        refine g_virtual X23 K (q := 183) (W := 0) (a := b8) (w92 H) (w93 H) (nf_self K (w95 H)) (w95 H) (w94 H) (w37 H) (w96 H) (by decide) (rm11_27 l H b8 ii bx5 bx9 bx10 bx11 kB9 p3 (p3 + (1 : Int32)) (p3 + (2 : Int32)) (p3 + (3 : Int32)) kB11 kB5 bx12 kB12 h23 Ol23 f24 f25 f26 f20 f19 hIb gebx5 f27 ne19 F23 (Ne.symm ne14) gebx12 ne11 (Ne.symm ne20) ne18 (Ne.symm ne12) ne9 gebx10 ne14 ne12 (Ne.symm ne9)) e23 f28 rfl (argsL := [(.int ii), (.int (0 : Int32)), (.int (0 : Int32))]) (rest := []) (lenOf pd_1 rfl) rfl rfl (Nat.le_of_eq rfl) at_180 (by decide) (by decide) (by decide) (by decide) rfl ?_
        rintro T33 v33 L33 X33 ⟨rfl, N33q, Kc33, g37, g38, g39⟩
        have N33 := Fr.app N23 N33q
        have Ol33 := Ol23.keep Kc33 (allS gebx5 (allS gebx12 (allS gebx10 all0)))
        show Go p e below _ T33 (mkF m 183 #[.val (.int p0), .val (.int p1), .val (.int p2), .val (.int p3), .val (.int p4), .val (.ref b1), .val (.ref b8), .val (.int (0 : Int32)), .val (.int (1 : Int32)), .val (.int (1 : Int32)), .val (.int (0 : Int32)), .val (.int ii), .val (.ref bx10), .val (.ref bx11), .unset] [])
        exact jt T33 _ _ (p3) ((p3 + (1 : Int32))) ((p3 + (2 : Int32))) ((p3 + (3 : Int32))) X33 N33 Kc33 g37 g38 g39 ((own_mv ii _ hI).trans (congrArg Value.int (Int32.add_zero p3).symm)) (own_mv1 ii _ hI) (own_mv2 ii _ hI) (ok_last (by decide) (by decide)) (ok_ge (by decide) rfl) (ok_ge (by decide) rfl) (ok_ge (by decide) rfl)
    · have hA : aa = (0 : Int32) ∨ aa = (1 : Int32) := by
        have z : (2 : Int32).toInt = 2 := rfl
        rw [z] at hAt
        have q : aa.toInt = 0 ∨ aa.toInt = 1 := by omega
        rcases q with q | q
        · exact Or.inl (own_lit q (by decide))
        · exact Or.inr ((own_lit q (by decide)))
      rcases hA with rfl | rfl
      · have f29 := ((((((((((g16.other W12 (Or.inl ne7)).other W13 (Or.inl ne7)).other W14 (Or.inl ne7)).other W15 (Or.inl ne7)).other W16 (Or.inl ne8)).other W17 (Or.inl ne8)).other W18 (Or.inl ne8)).other W19 (Or.inl ne8)).other W21 (Or.inl ne11)).other W23 (Or.inl ne11))
        have f30 := ((((((((((g20.other W12 (Or.inl ne7)).other W13 (Or.inl ne7)).other W14 (Or.inl ne7)).other W15 (Or.inl ne7)).other W16 (Or.inl ne8)).other W17 (Or.inl ne8)).other W18 (Or.inl ne8)).other W19 (Or.inl ne8)).other W21 (Or.inl ne11)).other W23 (Or.inl ne11))
        have ne21 : bx9 ≠ bx10 := (Nat.ne_of_lt lz9_7)
        have ne22 : bx9 ≠ bx11 := (Nat.ne_of_lt (Nat.lt_trans lz9_7 lz9_8))
        have ne23 : bx9 ≠ bx12 := (Nat.ne_of_lt (Nat.lt_trans lz9_7 (Nat.lt_trans lz9_8 lz9_9)))
        have f31 := ((((((((((g31.other W12 ne21).other W13 ne21).other W14 ne21).other W15 ne21).other W16 ne22).other W17 ne22).other W18 ne22).other W19 ne22).other W21 ne23).other W23 ne23)
        have f32 := (f18.other W23 (Or.inl ne11))
        have ne24 : b8 ≠ bx5 := (Nat.ne_of_lt (Nat.lt_trans lkbx3 (Nat.lt_trans lz9_1 lz9_2)))
        have ne25 : bx5 ≠ bx9 := (Nat.ne_of_lt (Nat.lt_trans lz9_3 (Nat.lt_trans lz9_4 (Nat.lt_trans lz9_5 lz9_6))))
        have f33 := ((((((((((g11.wr W12).wr W13).wr W14).wr W15).wr W16).wr W17).wr W18).wr W19).wr W21).wr W23)
        refine g_virtual X23 K (q := 183) (W := 0) (a := b8) (w92 H) (w93 H) (nf_self K (w95 H)) (w95 H) (w94 H) (w37 H) (w96 H) (by decide) (rm11_28 l H b8 ii bx5 bx9 bx10 bx11 kB9 p3 (p3 + (1 : Int32)) (p3 + (2 : Int32)) (p3 + (3 : Int32)) kB11 kB5 bx12 kB12 h23 Ol23 f29 f30 f31 f20 f19 hIb gebx5 f32 ne24 F23 (Ne.symm ne14) gebx12 ne11 (Ne.symm ne25) ne23 (Ne.symm ne12) ne9 gebx10 ne14 ne12 (Ne.symm ne9)) e23 f33 rfl (argsL := [(.int ii), (.int (0 : Int32)), (.int (0 : Int32))]) (rest := []) (lenOf pd_1 rfl) rfl rfl (Nat.le_of_eq rfl) at_180 (by decide) (by decide) (by decide) (by decide) rfl ?_
        rintro T34 v34 L34 X34 ⟨rfl, N34q, Kc34, g40, g41, g42⟩
        have N34 := Fr.app N23 N34q
        have Ol34 := Ol23.keep Kc34 (allS gebx5 (allS gebx12 (allS gebx10 all0)))
        show Go p e below _ T34 (mkF m 183 #[.val (.int p0), .val (.int p1), .val (.int p2), .val (.int p3), .val (.int p4), .val (.ref b1), .val (.ref b8), .val (.int (0 : Int32)), .val (.int (1 : Int32)), .val (.int (2 : Int32)), .val (.int (0 : Int32)), .val (.int ii), .val (.ref bx10), .val (.ref bx11), .unset] [])
        exact jt T34 _ _ ((p3 + (1 : Int32))) ((p3 + (1 : Int32))) ((p3 + (2 : Int32))) ((p3 + (3 : Int32))) X34 N34 Kc34 g40 g41 g42 ((own_mv ii _ hI).trans (congrArg Value.int (Int32.add_zero p3).symm)) (own_mv1 ii _ hI) (own_mv2 ii _ hI) (ok_at (by decide) rfl rfl) (ok_last (by decide) (by decide)) (ok_ge (by decide) rfl) (ok_ge (by decide) rfl)
      · have f34 := ((((((((((g16.other W12 (Or.inl ne7)).other W13 (Or.inl ne7)).other W14 (Or.inl ne7)).other W15 (Or.inl ne7)).other W16 (Or.inl ne8)).other W17 (Or.inl ne8)).other W18 (Or.inl ne8)).other W19 (Or.inl ne8)).other W21 (Or.inl ne11)).other W23 (Or.inl ne11))
        have f35 := ((((((((((g20.other W12 (Or.inl ne7)).other W13 (Or.inl ne7)).other W14 (Or.inl ne7)).other W15 (Or.inl ne7)).other W16 (Or.inl ne8)).other W17 (Or.inl ne8)).other W18 (Or.inl ne8)).other W19 (Or.inl ne8)).other W21 (Or.inl ne11)).other W23 (Or.inl ne11))
        have ne26 : bx9 ≠ bx10 := (Nat.ne_of_lt lz9_7)
        have ne27 : bx9 ≠ bx11 := (Nat.ne_of_lt (Nat.lt_trans lz9_7 lz9_8))
        have ne28 : bx9 ≠ bx12 := (Nat.ne_of_lt (Nat.lt_trans lz9_7 (Nat.lt_trans lz9_8 lz9_9)))
        have f36 := ((((((((((g31.other W12 ne26).other W13 ne26).other W14 ne26).other W15 ne26).other W16 ne27).other W17 ne27).other W18 ne27).other W19 ne27).other W21 ne28).other W23 ne28)
        have f37 := (f18.other W23 (Or.inl ne11))
        have ne29 : b8 ≠ bx5 := (Nat.ne_of_lt (Nat.lt_trans lkbx3 (Nat.lt_trans lz9_1 lz9_2)))
        have ne30 : bx5 ≠ bx9 := (Nat.ne_of_lt (Nat.lt_trans lz9_3 (Nat.lt_trans lz9_4 (Nat.lt_trans lz9_5 lz9_6))))
        have f38 := ((((((((((g11.wr W12).wr W13).wr W14).wr W15).wr W16).wr W17).wr W18).wr W19).wr W21).wr W23)
        refine g_virtual X23 K (q := 183) (W := 0) (a := b8) (w92 H) (w93 H) (nf_self K (w95 H)) (w95 H) (w94 H) (w37 H) (w96 H) (by decide) (rm11_29 l H b8 ii bx5 bx9 bx10 bx11 kB9 p3 (p3 + (1 : Int32)) (p3 + (2 : Int32)) (p3 + (3 : Int32)) kB11 kB5 bx12 kB12 h23 Ol23 f34 f35 f36 f20 f19 hIb gebx5 f37 ne29 F23 (Ne.symm ne14) gebx12 ne11 (Ne.symm ne30) ne28 (Ne.symm ne12) ne9 gebx10 ne14 ne12 (Ne.symm ne9)) e23 f38 rfl (argsL := [(.int ii), (.int (0 : Int32)), (.int (1 : Int32))]) (rest := []) (lenOf pd_1 rfl) rfl rfl (Nat.le_of_eq rfl) at_180 (by decide) (by decide) (by decide) (by decide) rfl ?_
        rintro T35 v35 L35 X35 ⟨rfl, N35q, Kc35, g43, g44, g45⟩
        have N35 := Fr.app N23 N35q
        have Ol35 := Ol23.keep Kc35 (allS gebx5 (allS gebx12 (allS gebx10 all0)))
        show Go p e below _ T35 (mkF m 183 #[.val (.int p0), .val (.int p1), .val (.int p2), .val (.int p3), .val (.int p4), .val (.ref b1), .val (.ref b8), .val (.int (0 : Int32)), .val (.int (1 : Int32)), .val (.int (2 : Int32)), .val (.int (1 : Int32)), .val (.int ii), .val (.ref bx10), .val (.ref bx11), .unset] [])
        exact jt T35 _ _ (p3) ((p3 + (1 : Int32))) ((p3 + (2 : Int32))) ((p3 + (3 : Int32))) X35 N35 Kc35 g43 g44 g45 (own_mv ii _ hI) (own_mv1 ii _ hI) (own_mv2 ii _ hI) (ok_no (by decide) (by decide) (Int32.add_zero p3).symm) (ok_last (by decide) (by decide)) (ok_ge (by decide) rfl) (ok_ge (by decide) rfl)
    · have hA : aa = (0 : Int32) ∨ aa = (1 : Int32) ∨ aa = (2 : Int32) := by
        have z : (3 : Int32).toInt = 3 := rfl
        rw [z] at hAt
        have q : aa.toInt = 0 ∨ aa.toInt = 1 ∨ aa.toInt = 2 := by omega
        rcases q with q | q | q
        · exact Or.inl (own_lit q (by decide))
        · exact Or.inr (Or.inl (own_lit q (by decide)))
        · exact Or.inr (Or.inr ((own_lit q (by decide))))
      rcases hA with rfl | rfl | rfl
      · have f39 := ((((((((((g16.other W12 (Or.inl ne7)).other W13 (Or.inl ne7)).other W14 (Or.inl ne7)).other W15 (Or.inl ne7)).other W16 (Or.inl ne8)).other W17 (Or.inl ne8)).other W18 (Or.inl ne8)).other W19 (Or.inl ne8)).other W21 (Or.inl ne11)).other W23 (Or.inl ne11))
        have f40 := ((((((((((g20.other W12 (Or.inl ne7)).other W13 (Or.inl ne7)).other W14 (Or.inl ne7)).other W15 (Or.inl ne7)).other W16 (Or.inl ne8)).other W17 (Or.inl ne8)).other W18 (Or.inl ne8)).other W19 (Or.inl ne8)).other W21 (Or.inl ne11)).other W23 (Or.inl ne11))
        have ne31 : bx9 ≠ bx10 := (Nat.ne_of_lt lz9_7)
        have ne32 : bx9 ≠ bx11 := (Nat.ne_of_lt (Nat.lt_trans lz9_7 lz9_8))
        have ne33 : bx9 ≠ bx12 := (Nat.ne_of_lt (Nat.lt_trans lz9_7 (Nat.lt_trans lz9_8 lz9_9)))
        have f41 := ((((((((((g31.other W12 ne31).other W13 ne31).other W14 ne31).other W15 ne31).other W16 ne32).other W17 ne32).other W18 ne32).other W19 ne32).other W21 ne33).other W23 ne33)
        have f42 := (f18.other W23 (Or.inl ne11))
        have ne34 : b8 ≠ bx5 := (Nat.ne_of_lt (Nat.lt_trans lkbx3 (Nat.lt_trans lz9_1 lz9_2)))
        have ne35 : bx5 ≠ bx9 := (Nat.ne_of_lt (Nat.lt_trans lz9_3 (Nat.lt_trans lz9_4 (Nat.lt_trans lz9_5 lz9_6))))
        have f43 := ((((((((((g11.wr W12).wr W13).wr W14).wr W15).wr W16).wr W17).wr W18).wr W19).wr W21).wr W23)
        refine g_virtual X23 K (q := 183) (W := 0) (a := b8) (w92 H) (w93 H) (nf_self K (w95 H)) (w95 H) (w94 H) (w37 H) (w96 H) (by decide) (rm11_30 l H b8 ii bx5 bx9 bx10 bx11 kB9 p3 (p3 + (1 : Int32)) (p3 + (2 : Int32)) (p3 + (3 : Int32)) kB11 kB5 bx12 kB12 h23 Ol23 f39 f40 f41 f20 f19 hIb gebx5 f42 ne34 F23 (Ne.symm ne14) gebx12 ne11 (Ne.symm ne35) ne33 (Ne.symm ne12) ne9 gebx10 ne14 ne12 (Ne.symm ne9)) e23 f43 rfl (argsL := [(.int ii), (.int (0 : Int32)), (.int (0 : Int32))]) (rest := []) (lenOf pd_1 rfl) rfl rfl (Nat.le_of_eq rfl) at_180 (by decide) (by decide) (by decide) (by decide) rfl ?_
        rintro T36 v36 L36 X36 ⟨rfl, N36q, Kc36, g46, g47, g48⟩
        have N36 := Fr.app N23 N36q
        have Ol36 := Ol23.keep Kc36 (allS gebx5 (allS gebx12 (allS gebx10 all0)))
        show Go p e below _ T36 (mkF m 183 #[.val (.int p0), .val (.int p1), .val (.int p2), .val (.int p3), .val (.int p4), .val (.ref b1), .val (.ref b8), .val (.int (0 : Int32)), .val (.int (1 : Int32)), .val (.int (3 : Int32)), .val (.int (0 : Int32)), .val (.int ii), .val (.ref bx10), .val (.ref bx11), .unset] [])
        exact jt T36 _ _ ((p3 + (2 : Int32))) ((p3 + (1 : Int32))) ((p3 + (2 : Int32))) ((p3 + (3 : Int32))) X36 N36 Kc36 g46 g47 g48 ((own_mv ii _ hI).trans (congrArg Value.int (Int32.add_zero p3).symm)) (own_mv1 ii _ hI) (own_mv2 ii _ hI) (ok_at (by decide) rfl rfl) (ok_no (by decide) (by decide) rfl) (ok_last (by decide) (by decide)) (ok_ge (by decide) rfl)
      · have f44 := ((((((((((g16.other W12 (Or.inl ne7)).other W13 (Or.inl ne7)).other W14 (Or.inl ne7)).other W15 (Or.inl ne7)).other W16 (Or.inl ne8)).other W17 (Or.inl ne8)).other W18 (Or.inl ne8)).other W19 (Or.inl ne8)).other W21 (Or.inl ne11)).other W23 (Or.inl ne11))
        have f45 := ((((((((((g20.other W12 (Or.inl ne7)).other W13 (Or.inl ne7)).other W14 (Or.inl ne7)).other W15 (Or.inl ne7)).other W16 (Or.inl ne8)).other W17 (Or.inl ne8)).other W18 (Or.inl ne8)).other W19 (Or.inl ne8)).other W21 (Or.inl ne11)).other W23 (Or.inl ne11))
        have ne36 : bx9 ≠ bx10 := (Nat.ne_of_lt lz9_7)
        have ne37 : bx9 ≠ bx11 := (Nat.ne_of_lt (Nat.lt_trans lz9_7 lz9_8))
        have ne38 : bx9 ≠ bx12 := (Nat.ne_of_lt (Nat.lt_trans lz9_7 (Nat.lt_trans lz9_8 lz9_9)))
        have f46 := ((((((((((g31.other W12 ne36).other W13 ne36).other W14 ne36).other W15 ne36).other W16 ne37).other W17 ne37).other W18 ne37).other W19 ne37).other W21 ne38).other W23 ne38)
        have f47 := (f18.other W23 (Or.inl ne11))
        have ne39 : b8 ≠ bx5 := (Nat.ne_of_lt (Nat.lt_trans lkbx3 (Nat.lt_trans lz9_1 lz9_2)))
        have ne40 : bx5 ≠ bx9 := (Nat.ne_of_lt (Nat.lt_trans lz9_3 (Nat.lt_trans lz9_4 (Nat.lt_trans lz9_5 lz9_6))))
        have f48 := ((((((((((g11.wr W12).wr W13).wr W14).wr W15).wr W16).wr W17).wr W18).wr W19).wr W21).wr W23)
        refine g_virtual X23 K (q := 183) (W := 0) (a := b8) (w92 H) (w93 H) (nf_self K (w95 H)) (w95 H) (w94 H) (w37 H) (w96 H) (by decide) (rm11_31 l H b8 ii bx5 bx9 bx10 bx11 kB9 p3 (p3 + (1 : Int32)) (p3 + (2 : Int32)) (p3 + (3 : Int32)) kB11 kB5 bx12 kB12 h23 Ol23 f44 f45 f46 f20 f19 hIb gebx5 f47 ne39 F23 (Ne.symm ne14) gebx12 ne11 (Ne.symm ne40) ne38 (Ne.symm ne12) ne9 gebx10 ne14 ne12 (Ne.symm ne9)) e23 f48 rfl (argsL := [(.int ii), (.int (0 : Int32)), (.int (1 : Int32))]) (rest := []) (lenOf pd_1 rfl) rfl rfl (Nat.le_of_eq rfl) at_180 (by decide) (by decide) (by decide) (by decide) rfl ?_
        rintro T37 v37 L37 X37 ⟨rfl, N37q, Kc37, g49, g50, g51⟩
        have N37 := Fr.app N23 N37q
        have Ol37 := Ol23.keep Kc37 (allS gebx5 (allS gebx12 (allS gebx10 all0)))
        show Go p e below _ T37 (mkF m 183 #[.val (.int p0), .val (.int p1), .val (.int p2), .val (.int p3), .val (.int p4), .val (.ref b1), .val (.ref b8), .val (.int (0 : Int32)), .val (.int (1 : Int32)), .val (.int (3 : Int32)), .val (.int (1 : Int32)), .val (.int ii), .val (.ref bx10), .val (.ref bx11), .unset] [])
        exact jt T37 _ _ (p3) ((p3 + (2 : Int32))) ((p3 + (2 : Int32))) ((p3 + (3 : Int32))) X37 N37 Kc37 g49 g50 g51 (own_mv ii _ hI) (own_mv1 ii _ hI) (own_mv2 ii _ hI) (ok_no (by decide) (by decide) (Int32.add_zero p3).symm) (ok_at (by decide) rfl rfl) (ok_last (by decide) (by decide)) (ok_ge (by decide) rfl)
      · have f49 := ((((((((((g16.other W12 (Or.inl ne7)).other W13 (Or.inl ne7)).other W14 (Or.inl ne7)).other W15 (Or.inl ne7)).other W16 (Or.inl ne8)).other W17 (Or.inl ne8)).other W18 (Or.inl ne8)).other W19 (Or.inl ne8)).other W21 (Or.inl ne11)).other W23 (Or.inl ne11))
        have f50 := ((((((((((g20.other W12 (Or.inl ne7)).other W13 (Or.inl ne7)).other W14 (Or.inl ne7)).other W15 (Or.inl ne7)).other W16 (Or.inl ne8)).other W17 (Or.inl ne8)).other W18 (Or.inl ne8)).other W19 (Or.inl ne8)).other W21 (Or.inl ne11)).other W23 (Or.inl ne11))
        have ne41 : bx9 ≠ bx10 := (Nat.ne_of_lt lz9_7)
        have ne42 : bx9 ≠ bx11 := (Nat.ne_of_lt (Nat.lt_trans lz9_7 lz9_8))
        have ne43 : bx9 ≠ bx12 := (Nat.ne_of_lt (Nat.lt_trans lz9_7 (Nat.lt_trans lz9_8 lz9_9)))
        have f51 := ((((((((((g31.other W12 ne41).other W13 ne41).other W14 ne41).other W15 ne41).other W16 ne42).other W17 ne42).other W18 ne42).other W19 ne42).other W21 ne43).other W23 ne43)
        have f52 := (f18.other W23 (Or.inl ne11))
        have ne44 : b8 ≠ bx5 := (Nat.ne_of_lt (Nat.lt_trans lkbx3 (Nat.lt_trans lz9_1 lz9_2)))
        have ne45 : bx5 ≠ bx9 := (Nat.ne_of_lt (Nat.lt_trans lz9_3 (Nat.lt_trans lz9_4 (Nat.lt_trans lz9_5 lz9_6))))
        have f53 := ((((((((((g11.wr W12).wr W13).wr W14).wr W15).wr W16).wr W17).wr W18).wr W19).wr W21).wr W23)
        refine g_virtual X23 K (q := 183) (W := 0) (a := b8) (w92 H) (w93 H) (nf_self K (w95 H)) (w95 H) (w94 H) (w37 H) (w96 H) (by decide) (rm11_32 l H b8 ii bx5 bx9 bx10 bx11 kB9 p3 (p3 + (1 : Int32)) (p3 + (2 : Int32)) (p3 + (3 : Int32)) kB11 kB5 bx12 kB12 h23 Ol23 f49 f50 f51 f20 f19 hIb gebx5 f52 ne44 F23 (Ne.symm ne14) gebx12 ne11 (Ne.symm ne45) ne43 (Ne.symm ne12) ne9 gebx10 ne14 ne12 (Ne.symm ne9)) e23 f53 rfl (argsL := [(.int ii), (.int (0 : Int32)), (.int (2 : Int32))]) (rest := []) (lenOf pd_1 rfl) rfl rfl (Nat.le_of_eq rfl) at_180 (by decide) (by decide) (by decide) (by decide) rfl ?_
        rintro T38 v38 L38 X38 ⟨rfl, N38q, Kc38, g52, g53, g54⟩
        have N38 := Fr.app N23 N38q
        have Ol38 := Ol23.keep Kc38 (allS gebx5 (allS gebx12 (allS gebx10 all0)))
        show Go p e below _ T38 (mkF m 183 #[.val (.int p0), .val (.int p1), .val (.int p2), .val (.int p3), .val (.int p4), .val (.ref b1), .val (.ref b8), .val (.int (0 : Int32)), .val (.int (1 : Int32)), .val (.int (3 : Int32)), .val (.int (2 : Int32)), .val (.int ii), .val (.ref bx10), .val (.ref bx11), .unset] [])
        exact jt T38 _ _ (p3) ((p3 + (1 : Int32))) ((p3 + (2 : Int32))) ((p3 + (3 : Int32))) X38 N38 Kc38 g52 g53 g54 (own_mv ii _ hI) (own_mv1 ii _ hI) (own_mv2 ii _ hI) (ok_no (by decide) (by decide) (Int32.add_zero p3).symm) (ok_no (by decide) (by decide) rfl) (ok_last (by decide) (by decide)) (ok_ge (by decide) rfl)
    · have hA : aa = (0 : Int32) ∨ aa = (1 : Int32) ∨ aa = (2 : Int32) ∨ aa = (3 : Int32) := by
        have z : (4 : Int32).toInt = 4 := rfl
        rw [z] at hAt
        have q : aa.toInt = 0 ∨ aa.toInt = 1 ∨ aa.toInt = 2 ∨ aa.toInt = 3 := by omega
        rcases q with q | q | q | q
        · exact Or.inl (own_lit q (by decide))
        · exact Or.inr (Or.inl (own_lit q (by decide)))
        · exact Or.inr (Or.inr (Or.inl (own_lit q (by decide))))
        · exact Or.inr (Or.inr (Or.inr ((own_lit q (by decide)))))
      rcases hA with rfl | rfl | rfl | rfl
      · have f54 := ((((((((((g16.other W12 (Or.inl ne7)).other W13 (Or.inl ne7)).other W14 (Or.inl ne7)).other W15 (Or.inl ne7)).other W16 (Or.inl ne8)).other W17 (Or.inl ne8)).other W18 (Or.inl ne8)).other W19 (Or.inl ne8)).other W21 (Or.inl ne11)).other W23 (Or.inl ne11))
        have f55 := ((((((((((g20.other W12 (Or.inl ne7)).other W13 (Or.inl ne7)).other W14 (Or.inl ne7)).other W15 (Or.inl ne7)).other W16 (Or.inl ne8)).other W17 (Or.inl ne8)).other W18 (Or.inl ne8)).other W19 (Or.inl ne8)).other W21 (Or.inl ne11)).other W23 (Or.inl ne11))
        have ne46 : bx9 ≠ bx10 := (Nat.ne_of_lt lz9_7)
        have ne47 : bx9 ≠ bx11 := (Nat.ne_of_lt (Nat.lt_trans lz9_7 lz9_8))
        have ne48 : bx9 ≠ bx12 := (Nat.ne_of_lt (Nat.lt_trans lz9_7 (Nat.lt_trans lz9_8 lz9_9)))
        have f56 := ((((((((((g31.other W12 ne46).other W13 ne46).other W14 ne46).other W15 ne46).other W16 ne47).other W17 ne47).other W18 ne47).other W19 ne47).other W21 ne48).other W23 ne48)
        have f57 := (f18.other W23 (Or.inl ne11))
        have ne49 : b8 ≠ bx5 := (Nat.ne_of_lt (Nat.lt_trans lkbx3 (Nat.lt_trans lz9_1 lz9_2)))
        have ne50 : bx5 ≠ bx9 := (Nat.ne_of_lt (Nat.lt_trans lz9_3 (Nat.lt_trans lz9_4 (Nat.lt_trans lz9_5 lz9_6))))
        have f58 := ((((((((((g11.wr W12).wr W13).wr W14).wr W15).wr W16).wr W17).wr W18).wr W19).wr W21).wr W23)
        refine g_virtual X23 K (q := 183) (W := 0) (a := b8) (w92 H) (w93 H) (nf_self K (w95 H)) (w95 H) (w94 H) (w37 H) (w96 H) (by decide) (rm11_33 l H b8 ii bx5 bx9 bx10 bx11 kB9 p3 (p3 + (1 : Int32)) (p3 + (2 : Int32)) (p3 + (3 : Int32)) kB11 kB5 bx12 kB12 h23 Ol23 f54 f55 f56 f20 f19 hIb gebx5 f57 ne49 F23 (Ne.symm ne14) gebx12 ne11 (Ne.symm ne50) ne48 (Ne.symm ne12) ne9 gebx10 ne14 ne12 (Ne.symm ne9)) e23 f58 rfl (argsL := [(.int ii), (.int (0 : Int32)), (.int (0 : Int32))]) (rest := []) (lenOf pd_1 rfl) rfl rfl (Nat.le_of_eq rfl) at_180 (by decide) (by decide) (by decide) (by decide) rfl ?_
        rintro T39 v39 L39 X39 ⟨rfl, N39q, Kc39, g55, g56, g57⟩
        have N39 := Fr.app N23 N39q
        have Ol39 := Ol23.keep Kc39 (allS gebx5 (allS gebx12 (allS gebx10 all0)))
        show Go p e below _ T39 (mkF m 183 #[.val (.int p0), .val (.int p1), .val (.int p2), .val (.int p3), .val (.int p4), .val (.ref b1), .val (.ref b8), .val (.int (0 : Int32)), .val (.int (1 : Int32)), .val (.int (4 : Int32)), .val (.int (0 : Int32)), .val (.int ii), .val (.ref bx10), .val (.ref bx11), .unset] [])
        exact jt T39 _ _ ((p3 + (3 : Int32))) ((p3 + (1 : Int32))) ((p3 + (2 : Int32))) ((p3 + (3 : Int32))) X39 N39 Kc39 g55 g56 g57 ((own_mv ii _ hI).trans (congrArg Value.int (Int32.add_zero p3).symm)) (own_mv1 ii _ hI) (own_mv2 ii _ hI) (ok_at (by decide) rfl rfl) (ok_no (by decide) (by decide) rfl) (ok_no (by decide) (by decide) rfl) (ok_last (by decide) (by decide))
      · have f59 := ((((((((((g16.other W12 (Or.inl ne7)).other W13 (Or.inl ne7)).other W14 (Or.inl ne7)).other W15 (Or.inl ne7)).other W16 (Or.inl ne8)).other W17 (Or.inl ne8)).other W18 (Or.inl ne8)).other W19 (Or.inl ne8)).other W21 (Or.inl ne11)).other W23 (Or.inl ne11))
        have f60 := ((((((((((g20.other W12 (Or.inl ne7)).other W13 (Or.inl ne7)).other W14 (Or.inl ne7)).other W15 (Or.inl ne7)).other W16 (Or.inl ne8)).other W17 (Or.inl ne8)).other W18 (Or.inl ne8)).other W19 (Or.inl ne8)).other W21 (Or.inl ne11)).other W23 (Or.inl ne11))
        have ne51 : bx9 ≠ bx10 := (Nat.ne_of_lt lz9_7)
        have ne52 : bx9 ≠ bx11 := (Nat.ne_of_lt (Nat.lt_trans lz9_7 lz9_8))
        have ne53 : bx9 ≠ bx12 := (Nat.ne_of_lt (Nat.lt_trans lz9_7 (Nat.lt_trans lz9_8 lz9_9)))
        have f61 := ((((((((((g31.other W12 ne51).other W13 ne51).other W14 ne51).other W15 ne51).other W16 ne52).other W17 ne52).other W18 ne52).other W19 ne52).other W21 ne53).other W23 ne53)
        have f62 := (f18.other W23 (Or.inl ne11))
        have ne54 : b8 ≠ bx5 := (Nat.ne_of_lt (Nat.lt_trans lkbx3 (Nat.lt_trans lz9_1 lz9_2)))
        have ne55 : bx5 ≠ bx9 := (Nat.ne_of_lt (Nat.lt_trans lz9_3 (Nat.lt_trans lz9_4 (Nat.lt_trans lz9_5 lz9_6))))
        have f63 := ((((((((((g11.wr W12).wr W13).wr W14).wr W15).wr W16).wr W17).wr W18).wr W19).wr W21).wr W23)
        refine g_virtual X23 K (q := 183) (W := 0) (a := b8) (w92 H) (w93 H) (nf_self K (w95 H)) (w95 H) (w94 H) (w37 H) (w96 H) (by decide) (rm11_34 l H b8 ii bx5 bx9 bx10 bx11 kB9 p3 (p3 + (1 : Int32)) (p3 + (2 : Int32)) (p3 + (3 : Int32)) kB11 kB5 bx12 kB12 h23 Ol23 f59 f60 f61 f20 f19 hIb gebx5 f62 ne54 F23 (Ne.symm ne14) gebx12 ne11 (Ne.symm ne55) ne53 (Ne.symm ne12) ne9 gebx10 ne14 ne12 (Ne.symm ne9)) e23 f63 rfl (argsL := [(.int ii), (.int (0 : Int32)), (.int (1 : Int32))]) (rest := []) (lenOf pd_1 rfl) rfl rfl (Nat.le_of_eq rfl) at_180 (by decide) (by decide) (by decide) (by decide) rfl ?_
        rintro T40 v40 L40 X40 ⟨rfl, N40q, Kc40, g58, g59, g60⟩
        have N40 := Fr.app N23 N40q
        have Ol40 := Ol23.keep Kc40 (allS gebx5 (allS gebx12 (allS gebx10 all0)))
        show Go p e below _ T40 (mkF m 183 #[.val (.int p0), .val (.int p1), .val (.int p2), .val (.int p3), .val (.int p4), .val (.ref b1), .val (.ref b8), .val (.int (0 : Int32)), .val (.int (1 : Int32)), .val (.int (4 : Int32)), .val (.int (1 : Int32)), .val (.int ii), .val (.ref bx10), .val (.ref bx11), .unset] [])
        exact jt T40 _ _ (p3) ((p3 + (3 : Int32))) ((p3 + (2 : Int32))) ((p3 + (3 : Int32))) X40 N40 Kc40 g58 g59 g60 (own_mv ii _ hI) (own_mv1 ii _ hI) (own_mv2 ii _ hI) (ok_no (by decide) (by decide) (Int32.add_zero p3).symm) (ok_at (by decide) rfl rfl) (ok_no (by decide) (by decide) rfl) (ok_last (by decide) (by decide))
      · have f64 := ((((((((((g16.other W12 (Or.inl ne7)).other W13 (Or.inl ne7)).other W14 (Or.inl ne7)).other W15 (Or.inl ne7)).other W16 (Or.inl ne8)).other W17 (Or.inl ne8)).other W18 (Or.inl ne8)).other W19 (Or.inl ne8)).other W21 (Or.inl ne11)).other W23 (Or.inl ne11))
        have f65 := ((((((((((g20.other W12 (Or.inl ne7)).other W13 (Or.inl ne7)).other W14 (Or.inl ne7)).other W15 (Or.inl ne7)).other W16 (Or.inl ne8)).other W17 (Or.inl ne8)).other W18 (Or.inl ne8)).other W19 (Or.inl ne8)).other W21 (Or.inl ne11)).other W23 (Or.inl ne11))
        have ne56 : bx9 ≠ bx10 := (Nat.ne_of_lt lz9_7)
        have ne57 : bx9 ≠ bx11 := (Nat.ne_of_lt (Nat.lt_trans lz9_7 lz9_8))
        have ne58 : bx9 ≠ bx12 := (Nat.ne_of_lt (Nat.lt_trans lz9_7 (Nat.lt_trans lz9_8 lz9_9)))
        have f66 := ((((((((((g31.other W12 ne56).other W13 ne56).other W14 ne56).other W15 ne56).other W16 ne57).other W17 ne57).other W18 ne57).other W19 ne57).other W21 ne58).other W23 ne58)
        have f67 := (f18.other W23 (Or.inl ne11))
        have ne59 : b8 ≠ bx5 := (Nat.ne_of_lt (Nat.lt_trans lkbx3 (Nat.lt_trans lz9_1 lz9_2)))
        have ne60 : bx5 ≠ bx9 := (Nat.ne_of_lt (Nat.lt_trans lz9_3 (Nat.lt_trans lz9_4 (Nat.lt_trans lz9_5 lz9_6))))
        have f68 := ((((((((((g11.wr W12).wr W13).wr W14).wr W15).wr W16).wr W17).wr W18).wr W19).wr W21).wr W23)
        refine g_virtual X23 K (q := 183) (W := 0) (a := b8) (w92 H) (w93 H) (nf_self K (w95 H)) (w95 H) (w94 H) (w37 H) (w96 H) (by decide) (rm11_35 l H b8 ii bx5 bx9 bx10 bx11 kB9 p3 (p3 + (1 : Int32)) (p3 + (2 : Int32)) (p3 + (3 : Int32)) kB11 kB5 bx12 kB12 h23 Ol23 f64 f65 f66 f20 f19 hIb gebx5 f67 ne59 F23 (Ne.symm ne14) gebx12 ne11 (Ne.symm ne60) ne58 (Ne.symm ne12) ne9 gebx10 ne14 ne12 (Ne.symm ne9)) e23 f68 rfl (argsL := [(.int ii), (.int (0 : Int32)), (.int (2 : Int32))]) (rest := []) (lenOf pd_1 rfl) rfl rfl (Nat.le_of_eq rfl) at_180 (by decide) (by decide) (by decide) (by decide) rfl ?_
        rintro T41 v41 L41 X41 ⟨rfl, N41q, Kc41, g61, g62, g63⟩
        have N41 := Fr.app N23 N41q
        have Ol41 := Ol23.keep Kc41 (allS gebx5 (allS gebx12 (allS gebx10 all0)))
        show Go p e below _ T41 (mkF m 183 #[.val (.int p0), .val (.int p1), .val (.int p2), .val (.int p3), .val (.int p4), .val (.ref b1), .val (.ref b8), .val (.int (0 : Int32)), .val (.int (1 : Int32)), .val (.int (4 : Int32)), .val (.int (2 : Int32)), .val (.int ii), .val (.ref bx10), .val (.ref bx11), .unset] [])
        exact jt T41 _ _ (p3) ((p3 + (1 : Int32))) ((p3 + (3 : Int32))) ((p3 + (3 : Int32))) X41 N41 Kc41 g61 g62 g63 (own_mv ii _ hI) (own_mv1 ii _ hI) (own_mv2 ii _ hI) (ok_no (by decide) (by decide) (Int32.add_zero p3).symm) (ok_no (by decide) (by decide) rfl) (ok_at (by decide) rfl rfl) (ok_last (by decide) (by decide))
      · have f69 := ((((((((((g16.other W12 (Or.inl ne7)).other W13 (Or.inl ne7)).other W14 (Or.inl ne7)).other W15 (Or.inl ne7)).other W16 (Or.inl ne8)).other W17 (Or.inl ne8)).other W18 (Or.inl ne8)).other W19 (Or.inl ne8)).other W21 (Or.inl ne11)).other W23 (Or.inl ne11))
        have f70 := ((((((((((g20.other W12 (Or.inl ne7)).other W13 (Or.inl ne7)).other W14 (Or.inl ne7)).other W15 (Or.inl ne7)).other W16 (Or.inl ne8)).other W17 (Or.inl ne8)).other W18 (Or.inl ne8)).other W19 (Or.inl ne8)).other W21 (Or.inl ne11)).other W23 (Or.inl ne11))
        have ne61 : bx9 ≠ bx10 := (Nat.ne_of_lt lz9_7)
        have ne62 : bx9 ≠ bx11 := (Nat.ne_of_lt (Nat.lt_trans lz9_7 lz9_8))
        have ne63 : bx9 ≠ bx12 := (Nat.ne_of_lt (Nat.lt_trans lz9_7 (Nat.lt_trans lz9_8 lz9_9)))
        have f71 := ((((((((((g31.other W12 ne61).other W13 ne61).other W14 ne61).other W15 ne61).other W16 ne62).other W17 ne62).other W18 ne62).other W19 ne62).other W21 ne63).other W23 ne63)
        have f72 := (f18.other W23 (Or.inl ne11))
        have ne64 : b8 ≠ bx5 := (Nat.ne_of_lt (Nat.lt_trans lkbx3 (Nat.lt_trans lz9_1 lz9_2)))
        have ne65 : bx5 ≠ bx9 := (Nat.ne_of_lt (Nat.lt_trans lz9_3 (Nat.lt_trans lz9_4 (Nat.lt_trans lz9_5 lz9_6))))
        have f73 := ((((((((((g11.wr W12).wr W13).wr W14).wr W15).wr W16).wr W17).wr W18).wr W19).wr W21).wr W23)
        refine g_virtual X23 K (q := 183) (W := 0) (a := b8) (w92 H) (w93 H) (nf_self K (w95 H)) (w95 H) (w94 H) (w37 H) (w96 H) (by decide) (rm11_36 l H b8 ii bx5 bx9 bx10 bx11 kB9 p3 (p3 + (1 : Int32)) (p3 + (2 : Int32)) (p3 + (3 : Int32)) kB11 kB5 bx12 kB12 h23 Ol23 f69 f70 f71 f20 f19 hIb gebx5 f72 ne64 F23 (Ne.symm ne14) gebx12 ne11 (Ne.symm ne65) ne63 (Ne.symm ne12) ne9 gebx10 ne14 ne12 (Ne.symm ne9)) e23 f73 rfl (argsL := [(.int ii), (.int (0 : Int32)), (.int (3 : Int32))]) (rest := []) (lenOf pd_1 rfl) rfl rfl (Nat.le_of_eq rfl) at_180 (by decide) (by decide) (by decide) (by decide) rfl ?_
        rintro T42 v42 L42 X42 ⟨rfl, N42q, Kc42, g64, g65, g66⟩
        have N42 := Fr.app N23 N42q
        have Ol42 := Ol23.keep Kc42 (allS gebx5 (allS gebx12 (allS gebx10 all0)))
        show Go p e below _ T42 (mkF m 183 #[.val (.int p0), .val (.int p1), .val (.int p2), .val (.int p3), .val (.int p4), .val (.ref b1), .val (.ref b8), .val (.int (0 : Int32)), .val (.int (1 : Int32)), .val (.int (4 : Int32)), .val (.int (3 : Int32)), .val (.int ii), .val (.ref bx10), .val (.ref bx11), .unset] [])
        exact jt T42 _ _ (p3) ((p3 + (1 : Int32))) ((p3 + (2 : Int32))) ((p3 + (3 : Int32))) X42 N42 Kc42 g64 g65 g66 (own_mv ii _ hI) (own_mv1 ii _ hI) (own_mv2 ii _ hI) (ok_no (by decide) (by decide) (Int32.add_zero p3).symm) (ok_no (by decide) (by decide) rfl) (ok_no (by decide) (by decide) rfl) (ok_last (by decide) (by decide))
  · refine g_iand X9 K (q := 43) (z := (1 : Int32)) at_42 hs1 rfl ?_
    refine g_istore X9 K (q := 45) (L' := #[.val (.int p0), .val (.int p1), .val (.int p2), .val (.int p3), .val (.int p4), .val (.ref b1), .val (.ref b8), .val (.int (1 : Int32)), .unset, .unset, .unset, .unset, .unset, .unset, .unset]) at_43 rfl rfl ?_
    refine g_iconst X9 K (q := 46) (v := (1 : Int32)) at_45 (by decide) rfl ?_
    refine g_iload X9 K (q := 48) at_46 rfl rfl ?_
    refine g_isub X9 K (q := 49) at_48 (z := (0 : Int32)) (by decide) rfl ?_
    refine g_istore X9 K (q := 51) (L' := #[.val (.int p0), .val (.int p1), .val (.int p2), .val (.int p3), .val (.int p4), .val (.ref b1), .val (.ref b8), .val (.int (1 : Int32)), .val (.int (0 : Int32)), .unset, .unset, .unset, .unset, .unset, .unset]) at_49 rfl rfl ?_
    refine g_iconst X9 K (q := 52) (v := (1 : Int32)) at_51 (by decide) rfl ?_
    refine g_iloadN X9 K (q := 53) at_52 rfl rfl ?_
    refine g_iconst X9 K (q := 54) (v := (1 : Int32)) at_53 (by decide) rfl ?_
    refine g_iushr X9 K (q := 55) at_54 rfl rfl ?_
    refine g_iconst X9 K (q := 56) (v := (3 : Int32)) at_55 (by decide) rfl ?_
    refine g_iand X9 K (q := 57) at_56 rfl rfl ?_
    obtain ⟨nn, hnn⟩ : ∃ z, (1 : Int32) + (((p1.toUInt32 >>> ((1 : Int32) &&& 31).toUInt32).toInt32) &&& (3 : Int32)) = z := ⟨_, rfl⟩
    have hN : nn = (1 : Int32) ∨ nn = (2 : Int32) ∨ nn = (3 : Int32) ∨ nn = (4 : Int32) := by rw [← hnn]; rcases own_mk4 ((p1.toUInt32 >>> ((1 : Int32) &&& 31).toUInt32).toInt32) with q | q | q | q <;> rw [q] <;> decide
    have hnz : nn ≠ 0 := by rcases hN with q | q | q | q <;> rw [q] <;> decide
    have hnp : 0 < nn.toInt := by rcases hN with q | q | q | q <;> rw [q] <;> decide
    refine g_iadd X9 K (q := 58) (z := nn) at_57 hnn rfl ?_
    refine g_istore X9 K (q := 60) (L' := #[.val (.int p0), .val (.int p1), .val (.int p2), .val (.int p3), .val (.int p4), .val (.ref b1), .val (.ref b8), .val (.int (1 : Int32)), .val (.int (0 : Int32)), .val (.int nn), .unset, .unset, .unset, .unset, .unset]) at_58 rfl rfl ?_
    refine g_iloadN X9 K (q := 61) at_60 rfl rfl ?_
    refine g_ldc X9 K (q := 63) (w89 H) at_61 rfl ?_
    refine g_iand X9 K (q := 64) at_63 rfl rfl ?_
    refine g_iload X9 K (q := 66) at_64 rfl rfl ?_
    have hAt := own_rem p2 (n := nn) (k := nn.toInt) rfl hnp
    obtain ⟨aa, haa⟩ : ∃ z, (p2 &&& (2147483647 : Int32)) % nn = z := ⟨_, rfl⟩
    rw [haa] at hAt
    refine g_irem X9 K (q := 67) (z := aa) at_66 hnz haa rfl ?_
    refine g_istore X9 K (q := 69) (L' := #[.val (.int p0), .val (.int p1), .val (.int p2), .val (.int p3), .val (.int p4), .val (.ref b1), .val (.ref b8), .val (.int (1 : Int32)), .val (.int (0 : Int32)), .val (.int nn), .val (.int aa), .unset, .unset, .unset, .unset]) at_67 rfl rfl ?_
    refine g_iloadN X9 K (q := 70) at_69 rfl rfl ?_
    refine g_ldc X9 K (q := 72) (w89 H) at_70 rfl ?_
    refine g_iand X9 K (q := 73) at_72 rfl rfl ?_
    refine g_iconst X9 K (q := 74) (v := (3 : Int32)) at_73 (by decide) rfl ?_
    have hI := own_sp3 p0
    obtain ⟨ii, hii⟩ : ∃ z, (p0 &&& (2147483647 : Int32)) % (3 : Int32) = z := ⟨_, rfl⟩
    rw [hii] at hI
    have hIb : ¬ ii < 0 ∧ ii < (3 : Int32) := by rcases hI with rfl | rfl | rfl <;> decide
    refine g_irem X9 K (q := 75) (z := ii) at_74 (by decide) hii rfl ?_
    refine g_istore X9 K (q := 77) (L' := #[.val (.int p0), .val (.int p1), .val (.int p2), .val (.int p3), .val (.int p4), .val (.ref b1), .val (.ref b8), .val (.int (1 : Int32)), .val (.int (0 : Int32)), .val (.int nn), .val (.int aa), .val (.int ii), .unset, .unset, .unset]) at_75 rfl rfl ?_
    refine g_aload X9 K (q := 79) at_77 rfl rfl rfl ?_
    refine g_getf X9 K (q := 82) (w90 H) Via.refl rfl g20 at_79 rfl ?_
    intro T43 X43 e43
    refine g_iload X43 K (q := 84) at_82 rfl rfl ?_
    refine g_aald X43 K (q := 85) (v := (.ref bx11)) e43 g31 rfl (by decide) rfl at_84 rfl ?_
    refine g_astore X43 K (q := 87) (L' := #[.val (.int p0), .val (.int p1), .val (.int p2), .val (.int p3), .val (.int p4), .val (.ref b1), .val (.ref b8), .val (.int (1 : Int32)), .val (.int (0 : Int32)), .val (.int nn), .val (.int aa), .val (.int ii), .val (.ref bx11), .unset, .unset]) at_85 rfl rfl rfl ?_
    refine g_aload X43 K (q := 89) at_87 rfl rfl rfl ?_
    refine g_getf X43 K (q := 92) (w90 H) Via.refl e43 g20 at_89 rfl ?_
    intro T44 X44 e44
    refine g_iload X44 K (q := 94) at_92 rfl rfl ?_
    refine g_aald X44 K (q := 95) (v := (.ref bx10)) e44 g31 rfl (by decide) rfl at_94 rfl ?_
    refine g_astore X44 K (q := 97) (L' := #[.val (.int p0), .val (.int p1), .val (.int p2), .val (.int p3), .val (.int p4), .val (.ref b1), .val (.ref b8), .val (.int (1 : Int32)), .val (.int (0 : Int32)), .val (.int nn), .val (.int aa), .val (.int ii), .val (.ref bx11), .val (.ref bx10), .unset]) at_95 rfl rfl rfl ?_
    refine g_aload X44 K (q := 99) at_97 rfl rfl rfl ?_
    refine g_iconst X44 K (q := 100) (v := (0 : Int32)) at_99 (by decide) rfl ?_
    refine g_iloadN X44 K (q := 101) at_100 rfl rfl ?_
    refine g_iast X44 K (q := 102) (vs' := [(.int p3), (.int (0 : Int32)), (.int (0 : Int32)), (.int (0 : Int32))]) e44 g33 (by decide) (Nat.le_of_ble_eq_true rfl) rfl at_101 rfl ?_
    intro T45 h45 X45 e45 W45 F45
    have N45 := Fr.snoc X45 N9 gebx11
    have Ol45 := Ol9.wr W45 gebx11
    refine g_aload X45 K (q := 104) at_102 rfl rfl rfl ?_
    refine g_iconst X45 K (q := 105) (v := (1 : Int32)) at_104 (by decide) rfl ?_
    refine g_iloadN X45 K (q := 106) at_105 rfl rfl ?_
    refine g_iconst X45 K (q := 107) (v := (1 : Int32)) at_106 (by decide) rfl ?_
    refine g_iadd X45 K (q := 108) at_107 rfl rfl ?_
    refine g_iast X45 K (q := 109) (vs' := [(.int p3), (.int (p3 + (1 : Int32))), (.int (0 : Int32)), (.int (0 : Int32))]) e45 F45 (by decide) (Nat.le_of_ble_eq_true rfl) rfl at_108 rfl ?_
    intro T46 h46 X46 e46 W46 F46
    have N46 := Fr.snoc X46 N45 gebx11
    have Ol46 := Ol45.wr W46 gebx11
    refine g_aload X46 K (q := 111) at_109 rfl rfl rfl ?_
    refine g_iconst X46 K (q := 112) (v := (2 : Int32)) at_111 (by decide) rfl ?_
    refine g_iloadN X46 K (q := 113) at_112 rfl rfl ?_
    refine g_iconst X46 K (q := 114) (v := (2 : Int32)) at_113 (by decide) rfl ?_
    refine g_iadd X46 K (q := 115) at_114 rfl rfl ?_
    refine g_iast X46 K (q := 116) (vs' := [(.int p3), (.int (p3 + (1 : Int32))), (.int (p3 + (2 : Int32))), (.int (0 : Int32))]) e46 F46 (by decide) (Nat.le_of_ble_eq_true rfl) rfl at_115 rfl ?_
    intro T47 h47 X47 e47 W47 F47
    have N47 := Fr.snoc X47 N46 gebx11
    have Ol47 := Ol46.wr W47 gebx11
    refine g_aload X47 K (q := 118) at_116 rfl rfl rfl ?_
    refine g_iconst X47 K (q := 119) (v := (3 : Int32)) at_118 (by decide) rfl ?_
    refine g_iloadN X47 K (q := 120) at_119 rfl rfl ?_
    refine g_iconst X47 K (q := 121) (v := (3 : Int32)) at_120 (by decide) rfl ?_
    refine g_iadd X47 K (q := 122) at_121 rfl rfl ?_
    refine g_iast X47 K (q := 123) (vs' := [(.int p3), (.int (p3 + (1 : Int32))), (.int (p3 + (2 : Int32))), (.int (p3 + (3 : Int32)))]) e47 F47 (by decide) (Nat.le_of_ble_eq_true rfl) rfl at_122 rfl ?_
    intro T48 h48 X48 e48 W48 F48
    have N48 := Fr.snoc X48 N47 gebx11
    have Ol48 := Ol47.wr W48 gebx11
    refine g_aload X48 K (q := 125) at_123 rfl rfl rfl ?_
    refine g_iconst X48 K (q := 126) (v := (0 : Int32)) at_125 (by decide) rfl ?_
    refine g_iload X48 K (q := 128) at_126 rfl rfl ?_
    have ne66 : bx10 ≠ bx11 := (Nat.ne_of_lt lz9_8)
    have f74 := ((((g32.other W45 ne66).other W46 ne66).other W47 ne66).other W48 ne66)
    refine g_iast X48 K (q := 129) (vs' := [(.int p4), (.int (0 : Int32)), (.int (0 : Int32)), (.int (0 : Int32))]) e48 f74 (by decide) (Nat.le_of_ble_eq_true rfl) rfl at_128 rfl ?_
    intro T49 h49 X49 e49 W49 F49
    have N49 := Fr.snoc X49 N48 gebx10
    have Ol49 := Ol48.wr W49 gebx10
    refine g_aload X49 K (q := 131) at_129 rfl rfl rfl ?_
    refine g_iconst X49 K (q := 132) (v := (1 : Int32)) at_131 (by decide) rfl ?_
    refine g_iload X49 K (q := 134) at_132 rfl rfl ?_
    refine g_iconst X49 K (q := 135) (v := (1 : Int32)) at_134 (by decide) rfl ?_
    refine g_iadd X49 K (q := 136) at_135 rfl rfl ?_
    refine g_iast X49 K (q := 137) (vs' := [(.int p4), (.int (p4 + (1 : Int32))), (.int (0 : Int32)), (.int (0 : Int32))]) e49 F49 (by decide) (Nat.le_of_ble_eq_true rfl) rfl at_136 rfl ?_
    intro T50 h50 X50 e50 W50 F50
    have N50 := Fr.snoc X50 N49 gebx10
    have Ol50 := Ol49.wr W50 gebx10
    refine g_aload X50 K (q := 139) at_137 rfl rfl rfl ?_
    refine g_iconst X50 K (q := 140) (v := (2 : Int32)) at_139 (by decide) rfl ?_
    refine g_iload X50 K (q := 142) at_140 rfl rfl ?_
    refine g_iconst X50 K (q := 143) (v := (2 : Int32)) at_142 (by decide) rfl ?_
    refine g_iadd X50 K (q := 144) at_143 rfl rfl ?_
    refine g_iast X50 K (q := 145) (vs' := [(.int p4), (.int (p4 + (1 : Int32))), (.int (p4 + (2 : Int32))), (.int (0 : Int32))]) e50 F50 (by decide) (Nat.le_of_ble_eq_true rfl) rfl at_144 rfl ?_
    intro T51 h51 X51 e51 W51 F51
    have N51 := Fr.snoc X51 N50 gebx10
    have Ol51 := Ol50.wr W51 gebx10
    refine g_aload X51 K (q := 147) at_145 rfl rfl rfl ?_
    refine g_iconst X51 K (q := 148) (v := (3 : Int32)) at_147 (by decide) rfl ?_
    refine g_iload X51 K (q := 150) at_148 rfl rfl ?_
    refine g_iconst X51 K (q := 151) (v := (3 : Int32)) at_150 (by decide) rfl ?_
    refine g_iadd X51 K (q := 152) at_151 rfl rfl ?_
    refine g_iast X51 K (q := 153) (vs' := [(.int p4), (.int (p4 + (1 : Int32))), (.int (p4 + (2 : Int32))), (.int (p4 + (3 : Int32)))]) e51 F51 (by decide) (Nat.le_of_ble_eq_true rfl) rfl at_152 rfl ?_
    intro T52 h52 X52 e52 W52 F52
    have N52 := Fr.snoc X52 N51 gebx10
    have Ol52 := Ol51.wr W52 gebx10
    refine g_aload X52 K (q := 155) at_153 rfl rfl rfl ?_
    have ne67 : b8 ≠ bx11 := (Nat.ne_of_lt (Nat.lt_trans lkbx3 (Nat.lt_trans lz9_1 (Nat.lt_trans lz9_2 (Nat.lt_trans lz9_3 (Nat.lt_trans lz9_4 (Nat.lt_trans lz9_5 (Nat.lt_trans lz9_6 (Nat.lt_trans lz9_7 lz9_8)))))))))
    have ne68 : b8 ≠ bx10 := (Nat.ne_of_lt (Nat.lt_trans lkbx3 (Nat.lt_trans lz9_1 (Nat.lt_trans lz9_2 (Nat.lt_trans lz9_3 (Nat.lt_trans lz9_4 (Nat.lt_trans lz9_5 (Nat.lt_trans lz9_6 lz9_7))))))))
    have f75 := ((((((((g21.other W45 (Or.inl ne67)).other W46 (Or.inl ne67)).other W47 (Or.inl ne67)).other W48 (Or.inl ne67)).other W49 (Or.inl ne68)).other W50 (Or.inl ne68)).other W51 (Or.inl ne68)).other W52 (Or.inl ne68))
    refine g_getf X52 K (q := 158) (w91 H) Via.refl e52 f75 at_155 rfl ?_
    intro T53 X53 e53
    refine g_iload X53 K (q := 160) at_158 rfl rfl ?_
    refine g_iload X53 K (q := 162) at_160 rfl rfl ?_
    have ne69 : bx11 ≠ bx12 := (Nat.ne_of_lt lz9_9)
    have ne70 : bx10 ≠ bx12 := (Nat.ne_of_lt (Nat.lt_trans lz9_8 lz9_9))
    have f76 := ((((((((g34.other W45 (Ne.symm ne69)).other W46 (Ne.symm ne69)).other W47 (Ne.symm ne69)).other W48 (Ne.symm ne69)).other W49 (Ne.symm ne70)).other W50 (Ne.symm ne70)).other W51 (Ne.symm ne70)).other W52 (Ne.symm ne70))
    refine g_iast X53 K (q := 163) (vs' := [(.int (0 : Int32)), (.int nn)]) e53 f76 (by decide) (Nat.le_of_ble_eq_true rfl) rfl at_162 rfl ?_
    intro T54 h54 X54 e54 W54 F54
    have N54 := Fr.snoc X54 N52 gebx12
    have Ol54 := Ol52.wr W54 gebx12
    refine g_aload X54 K (q := 165) at_163 rfl rfl rfl ?_
    have ne71 : b8 ≠ bx12 := (Nat.ne_of_lt (Nat.lt_trans lkbx3 (Nat.lt_trans lz9_1 (Nat.lt_trans lz9_2 (Nat.lt_trans lz9_3 (Nat.lt_trans lz9_4 (Nat.lt_trans lz9_5 (Nat.lt_trans lz9_6 (Nat.lt_trans lz9_7 (Nat.lt_trans lz9_8 lz9_9))))))))))
    have f77 := (f75.other W54 (Or.inl ne71))
    refine g_getf X54 K (q := 168) (w91 H) Via.refl e54 f77 at_165 rfl ?_
    intro T55 X55 e55
    refine g_iload X55 K (q := 170) at_168 rfl rfl ?_
    refine g_iconst X55 K (q := 171) (v := (4 : Int32)) at_170 (by decide) rfl ?_
    refine g_iast X55 K (q := 172) (vs' := [(.int (4 : Int32)), (.int nn)]) e55 F54 (by decide) (Nat.le_of_ble_eq_true rfl) rfl at_171 rfl ?_
    intro T56 h56 X56 e56 W56 F56
    have N56 := Fr.snoc X56 N54 gebx12
    have Ol56 := Ol54.wr W56 gebx12
    refine g_aload X56 K (q := 174) at_172 rfl rfl rfl ?_
    refine g_iload X56 K (q := 176) at_174 rfl rfl ?_
    refine g_iload X56 K (q := 178) at_176 rfl rfl ?_
    refine g_iload X56 K (q := 180) at_178 rfl rfl ?_
    have ne72 : bx5 ≠ bx11 := (Nat.ne_of_lt (Nat.lt_trans lz9_3 (Nat.lt_trans lz9_4 (Nat.lt_trans lz9_5 (Nat.lt_trans lz9_6 (Nat.lt_trans lz9_7 lz9_8))))))
    have ne73 : bx5 ≠ bx10 := (Nat.ne_of_lt (Nat.lt_trans lz9_3 (Nat.lt_trans lz9_4 (Nat.lt_trans lz9_5 (Nat.lt_trans lz9_6 lz9_7)))))
    have ne74 : bx5 ≠ bx12 := (Nat.ne_of_lt (Nat.lt_trans lz9_3 (Nat.lt_trans lz9_4 (Nat.lt_trans lz9_5 (Nat.lt_trans lz9_6 (Nat.lt_trans lz9_7 (Nat.lt_trans lz9_8 lz9_9)))))))
    have f78 := ((((((((((g26.other W45 ne72).other W46 ne72).other W47 ne72).other W48 ne72).other W49 ne73).other W50 ne73).other W51 ne73).other W52 ne73).other W54 ne74).other W56 ne74)
    have f79 := ((((((F48.other W49 (Ne.symm ne66)).other W50 (Ne.symm ne66)).other W51 (Ne.symm ne66)).other W52 (Ne.symm ne66)).other W54 ne69).other W56 ne69)
    have jt : ∀ (Tj : State) (Lj : List Loc) (mv : List Value) (m0 m1 m2 m3 : Int32), Stand p l e room_1 s m #[(.int p0), (.int p1), (.int p2), (.int p3), (.int p4)] below meth c Tj Lj 18 107 → Fr Z.heap.size Lj → Keep h56 Tj.heap [bx5, bx12, bx11] → Arv Z Tj.heap bx5 kB5 .int (3 : Int32) mv (.int (0 : Int32)) → Arv Z Tj.heap bx12 kB12 .int (2 : Int32) [(.int (4 : Int32)), (.int (nn - (1 : Int32)))] (.int (0 : Int32)) → Arv Z Tj.heap bx11 kB11 .int (4 : Int32) [(.int m0), (.int m1), (.int m2), (.int m3)] (.int (0 : Int32)) → mv.getD ii.toNatClampNeg (Value.int (0 : Int32)) = .int (p3 + aa) → mv.getD ((ii + (1 : Int32)) % (3 : Int32)).toNatClampNeg (Value.int (0 : Int32)) = .int (0 : Int32) → mv.getD ((ii + (2 : Int32)) % (3 : Int32)).toNatClampNeg (Value.int (0 : Int32)) = .int (0 : Int32) → SlotOK (0 : Int32) nn aa p3 m0 → SlotOK (1 : Int32) nn aa p3 m1 → SlotOK (2 : Int32) nn aa p3 m2 → SlotOK (3 : Int32) nn aa p3 m3 → Go p e below (Done s below (fun v h L => v = some (.int 1) ∧ Fr Z.heap.size L) room_1.cells room_1.slots) Tj (mkF m 183 #[.val (.int p0), .val (.int p1), .val (.int p2), .val (.int p3), .val (.int p4), .val (.ref b1), .val (.ref b8), .val (.int (1 : Int32)), .val (.int (0 : Int32)), .val (.int nn), .val (.int aa), .val (.int ii), .val (.ref bx11), .val (.ref bx10), .unset] []) := by
      intro Tj Lj mv m0 m1 m2 m3 Xj Nj Kj Am Ah An hm0 hm1 hm2 ok0 ok1 ok2 ok3
      have Olj := Ol56.keep Kj (allS gebx5 (allS gebx12 (allS gebx11 all0)))
      refine g_aload Xj K (q := 185) at_183 rfl rfl rfl ?_
      have ne75 : b8 ≠ bx5 := (Nat.ne_of_lt (Nat.lt_trans lkbx3 (Nat.lt_trans lz9_1 lz9_2)))
      have f80 := ((f77.other W56 (Or.inl ne71)).keep Kj (ninS ne75 (ninS ne71 (ninS ne67 nin0))))
      refine g_getf Xj K (q := 188) (w91 H) Via.refl rfl f80 at_185 rfl ?_
      intro T57 X57 e57
      refine g_iload X57 K (q := 190) at_188 rfl rfl ?_
      refine g_iald X57 K (q := 191) (v := (.int (nn - (1 : Int32)))) e57 Ah (by decide) rfl at_190 rfl ?_
      refine g_iload X57 K (q := 193) at_191 rfl rfl ?_
      refine g_iconst X57 K (q := 194) (v := (1 : Int32)) at_193 (by decide) rfl ?_
      refine g_isub X57 K (q := 195) at_194 rfl rfl ?_
      refine g_icN X57 K (q := 198) at_195 (teq rfl).2 rfl ?_
      refine g_aload X57 K (q := 200) at_198 rfl rfl rfl ?_
      refine g_getf X57 K (q := 203) (w91 H) Via.refl e57 f80 at_200 rfl ?_
      intro T58 X58 e58
      refine g_iload X58 K (q := 205) at_203 rfl rfl ?_
      refine g_iald X58 K (q := 206) (v := (.int (4 : Int32))) e58 Ah (by decide) rfl at_205 rfl ?_
      refine g_iconst X58 K (q := 207) (v := (4 : Int32)) at_206 (by decide) rfl ?_
      refine g_icN X58 K (q := 210) at_207 (by decide) rfl ?_
      refine g_aload X58 K (q := 212) at_210 rfl rfl rfl ?_
      have f81 := (((((((((((g16.other W45 (Or.inl ne67)).other W46 (Or.inl ne67)).other W47 (Or.inl ne67)).other W48 (Or.inl ne67)).other W49 (Or.inl ne68)).other W50 (Or.inl ne68)).other W51 (Or.inl ne68)).other W52 (Or.inl ne68)).other W54 (Or.inl ne71)).other W56 (Or.inl ne71)).keep Kj (ninS ne75 (ninS ne71 (ninS ne67 nin0))))
      refine g_getf X58 K (q := 215) (w97 H) Via.refl e58 f81 at_212 rfl ?_
      intro T59 X59 e59
      refine g_iload X59 K (q := 217) at_215 rfl rfl ?_
      refine g_iald X59 K (q := 218) (v := (.int (p3 + aa))) e59 Am hIb hm0 at_217 rfl ?_
      refine g_iloadN X59 K (q := 219) at_218 rfl rfl ?_
      refine g_iload X59 K (q := 221) at_219 rfl rfl ?_
      refine g_iadd X59 K (q := 222) at_221 rfl rfl ?_
      refine g_icN X59 K (q := 225) at_222 (teq rfl).2 rfl ?_
      refine g_aload X59 K (q := 227) at_225 rfl rfl rfl ?_
      refine g_getf X59 K (q := 230) (w97 H) Via.refl e59 f81 at_227 rfl ?_
      intro T60 X60 e60
      refine g_iload X60 K (q := 232) at_230 rfl rfl ?_
      refine g_iconst X60 K (q := 233) (v := (1 : Int32)) at_232 (by decide) rfl ?_
      refine g_iadd X60 K (q := 234) at_233 rfl rfl ?_
      refine g_iconst X60 K (q := 235) (v := (3 : Int32)) at_234 (by decide) rfl ?_
      refine g_irem X60 K (q := 236) at_235 (by decide) rfl rfl ?_
      refine g_iald X60 K (q := 237) (v := (.int (0 : Int32))) e60 Am (by rcases hI with rfl | rfl | rfl <;> decide) hm1 at_236 rfl ?_
      refine g_ifN X60 K (q := 240) at_237 (by decide) rfl ?_
      refine g_aload X60 K (q := 242) at_240 rfl rfl rfl ?_
      refine g_getf X60 K (q := 245) (w97 H) Via.refl e60 f81 at_242 rfl ?_
      intro T61 X61 e61
      refine g_iload X61 K (q := 247) at_245 rfl rfl ?_
      refine g_iconst X61 K (q := 248) (v := (2 : Int32)) at_247 (by decide) rfl ?_
      refine g_iadd X61 K (q := 249) at_248 rfl rfl ?_
      refine g_iconst X61 K (q := 250) (v := (3 : Int32)) at_249 (by decide) rfl ?_
      refine g_irem X61 K (q := 251) at_250 (by decide) rfl rfl ?_
      refine g_iald X61 K (q := 252) (v := (.int (0 : Int32))) e61 Am (by rcases hI with rfl | rfl | rfl <;> decide) hm2 at_251 rfl ?_
      refine g_ifN X61 K (q := 255) at_252 (by decide) rfl ?_
      refine g_iconst X61 K (q := 256) (v := (1 : Int32)) at_255 (by decide) rfl ?_
      refine g_goto X61 K (q := 260) at_256 (by decide) (by decide) ?_
      refine g_istore X61 K (q := 262) (L' := #[.val (.int p0), .val (.int p1), .val (.int p2), .val (.int p3), .val (.int p4), .val (.ref b1), .val (.ref b8), .val (.int (1 : Int32)), .val (.int (0 : Int32)), .val (.int nn), .val (.int aa), .val (.int ii), .val (.ref bx11), .val (.ref bx10), .val (.int (1 : Int32))]) at_260 rfl rfl ?_
      refine g_iload X61 K (q := 264) at_262 rfl rfl ?_
      refine g_ifN X61 K (q := 267) at_264 (by decide) rfl ?_
      refine g_aload X61 K (q := 269) at_267 rfl rfl rfl ?_
      refine g_iconst X61 K (q := 270) (v := (0 : Int32)) at_269 (by decide) rfl ?_
      refine g_iload X61 K (q := 272) at_270 rfl rfl ?_
      refine g_iload X61 K (q := 274) at_272 rfl rfl ?_
      refine g_iloadN X61 K (q := 275) at_274 rfl rfl ?_
      refine g_static X61 K (q := 278) (W := 0) (w98 H) (w99 H) (w100 H) (w101 H) (by decide) (rm12_23 l H bx11 nn aa p3 m0 m1 m2 m3 kB11 Tj.heap Olj An ok0) e61 rfl (argsL := [(.ref bx11), (.int (0 : Int32)), (.int nn), (.int aa), (.int p3)]) (rest := []) (lenOf pd_7 rfl) rfl rfl (Nat.le_of_eq rfl) at_275 (by decide) (by decide) (by decide) (by decide) rfl ?_
      rintro T62 v62 L62 X62 ⟨rfl, N62q, e62⟩
      have N62 := Fr.app Nj N62q
      show Go p e below _ T62 (mkF m 278 #[.val (.int p0), .val (.int p1), .val (.int p2), .val (.int p3), .val (.int p4), .val (.ref b1), .val (.ref b8), .val (.int (1 : Int32)), .val (.int (0 : Int32)), .val (.int nn), .val (.int aa), .val (.int ii), .val (.ref bx11), .val (.ref bx10), .val (.int (1 : Int32))] [(.int (1 : Int32))])
      refine g_ifN X62 K (q := 281) at_278 (by decide) rfl ?_
      refine g_aload X62 K (q := 283) at_281 rfl rfl rfl ?_
      refine g_iconst X62 K (q := 284) (v := (1 : Int32)) at_283 (by decide) rfl ?_
      refine g_iload X62 K (q := 286) at_284 rfl rfl ?_
      refine g_iload X62 K (q := 288) at_286 rfl rfl ?_
      refine g_iloadN X62 K (q := 289) at_288 rfl rfl ?_
      refine g_static X62 K (q := 292) (W := 0) (w98 H) (w99 H) (w100 H) (w101 H) (by decide) (rm12_24 l H bx11 nn aa p3 m0 m1 m2 m3 kB11 Tj.heap Olj An ok1) e62 rfl (argsL := [(.ref bx11), (.int (1 : Int32)), (.int nn), (.int aa), (.int p3)]) (rest := []) (lenOf pd_7 rfl) rfl rfl (Nat.le_of_eq rfl) at_289 (by decide) (by decide) (by decide) (by decide) rfl ?_
      rintro T63 v63 L63 X63 ⟨rfl, N63q, e63⟩
      have N63 := Fr.app N62 N63q
      show Go p e below _ T63 (mkF m 292 #[.val (.int p0), .val (.int p1), .val (.int p2), .val (.int p3), .val (.int p4), .val (.ref b1), .val (.ref b8), .val (.int (1 : Int32)), .val (.int (0 : Int32)), .val (.int nn), .val (.int aa), .val (.int ii), .val (.ref bx11), .val (.ref bx10), .val (.int (1 : Int32))] [(.int (1 : Int32))])
      refine g_ifN X63 K (q := 295) at_292 (by decide) rfl ?_
      refine g_aload X63 K (q := 297) at_295 rfl rfl rfl ?_
      refine g_iconst X63 K (q := 298) (v := (2 : Int32)) at_297 (by decide) rfl ?_
      refine g_iload X63 K (q := 300) at_298 rfl rfl ?_
      refine g_iload X63 K (q := 302) at_300 rfl rfl ?_
      refine g_iloadN X63 K (q := 303) at_302 rfl rfl ?_
      refine g_static X63 K (q := 306) (W := 0) (w98 H) (w99 H) (w100 H) (w101 H) (by decide) (rm12_25 l H bx11 nn aa p3 m0 m1 m2 m3 kB11 Tj.heap Olj An ok2) e63 rfl (argsL := [(.ref bx11), (.int (2 : Int32)), (.int nn), (.int aa), (.int p3)]) (rest := []) (lenOf pd_7 rfl) rfl rfl (Nat.le_of_eq rfl) at_303 (by decide) (by decide) (by decide) (by decide) rfl ?_
      rintro T64 v64 L64 X64 ⟨rfl, N64q, e64⟩
      have N64 := Fr.app N63 N64q
      show Go p e below _ T64 (mkF m 306 #[.val (.int p0), .val (.int p1), .val (.int p2), .val (.int p3), .val (.int p4), .val (.ref b1), .val (.ref b8), .val (.int (1 : Int32)), .val (.int (0 : Int32)), .val (.int nn), .val (.int aa), .val (.int ii), .val (.ref bx11), .val (.ref bx10), .val (.int (1 : Int32))] [(.int (1 : Int32))])
      refine g_ifN X64 K (q := 309) at_306 (by decide) rfl ?_
      refine g_aload X64 K (q := 311) at_309 rfl rfl rfl ?_
      refine g_iconst X64 K (q := 312) (v := (3 : Int32)) at_311 (by decide) rfl ?_
      refine g_iload X64 K (q := 314) at_312 rfl rfl ?_
      refine g_iload X64 K (q := 316) at_314 rfl rfl ?_
      refine g_iloadN X64 K (q := 317) at_316 rfl rfl ?_
      refine g_static X64 K (q := 320) (W := 0) (w98 H) (w99 H) (w100 H) (w101 H) (by decide) (rm12_26 l H bx11 nn aa p3 m0 m1 m2 m3 kB11 Tj.heap Olj An ok3) e64 rfl (argsL := [(.ref bx11), (.int (3 : Int32)), (.int nn), (.int aa), (.int p3)]) (rest := []) (lenOf pd_7 rfl) rfl rfl (Nat.le_of_eq rfl) at_317 (by decide) (by decide) (by decide) (by decide) rfl ?_
      rintro T65 v65 L65 X65 ⟨rfl, N65q, e65⟩
      have N65 := Fr.app N64 N65q
      show Go p e below _ T65 (mkF m 320 #[.val (.int p0), .val (.int p1), .val (.int p2), .val (.int p3), .val (.int p4), .val (.ref b1), .val (.ref b8), .val (.int (1 : Int32)), .val (.int (0 : Int32)), .val (.int nn), .val (.int aa), .val (.int ii), .val (.ref bx11), .val (.ref bx10), .val (.int (1 : Int32))] [(.int (1 : Int32))])
      refine g_ifN X65 K (q := 323) at_320 (by decide) rfl ?_
      refine g_iconst X65 K (q := 324) (v := (1 : Int32)) at_323 (by decide) rfl ?_
      refine g_goto X65 K (q := 328) at_324 (by decide) (by decide) ?_
      refine g_istore X65 K (q := 330) (L' := #[.val (.int p0), .val (.int p1), .val (.int p2), .val (.int p3), .val (.int p4), .val (.ref b1), .val (.ref b8), .val (.int (1 : Int32)), .val (.int (0 : Int32)), .val (.int nn), .val (.int aa), .val (.int ii), .val (.ref bx11), .val (.ref bx10), .val (.int (1 : Int32))]) at_328 rfl rfl ?_
      refine g_iload X65 K (q := 332) at_330 rfl rfl ?_
      refine g_ifN X65 K (q := 335) at_332 (by decide) rfl ?_
      refine g_aload X65 K (q := 337) at_335 rfl rfl rfl ?_
      refine g_iconst X65 K (q := 338) (v := (0 : Int32)) at_337 (by decide) rfl ?_
      have f82 := (((F52.other W54 ne70).other W56 ne70).keep Kj (ninS (Ne.symm ne73) (ninS ne70 (ninS ne66 nin0))))
      refine g_iald X65 K (q := 339) (v := (.int p4)) e65 f82 (by decide) rfl at_338 rfl ?_
      refine g_iload X65 K (q := 341) at_339 rfl rfl ?_
      refine g_icN X65 K (q := 344) at_341 (teq rfl).2 rfl ?_
      refine g_aload X65 K (q := 346) at_344 rfl rfl rfl ?_
      refine g_iconst X65 K (q := 347) (v := (1 : Int32)) at_346 (by decide) rfl ?_
      refine g_iald X65 K (q := 348) (v := (.int (p4 + (1 : Int32)))) e65 f82 (by decide) rfl at_347 rfl ?_
      refine g_iload X65 K (q := 350) at_348 rfl rfl ?_
      refine g_iconst X65 K (q := 351) (v := (1 : Int32)) at_350 (by decide) rfl ?_
      refine g_iadd X65 K (q := 352) at_351 rfl rfl ?_
      refine g_icN X65 K (q := 355) at_352 (teq rfl).2 rfl ?_
      refine g_aload X65 K (q := 357) at_355 rfl rfl rfl ?_
      refine g_iconst X65 K (q := 358) (v := (2 : Int32)) at_357 (by decide) rfl ?_
      refine g_iald X65 K (q := 359) (v := (.int (p4 + (2 : Int32)))) e65 f82 (by decide) rfl at_358 rfl ?_
      refine g_iload X65 K (q := 361) at_359 rfl rfl ?_
      refine g_iconst X65 K (q := 362) (v := (2 : Int32)) at_361 (by decide) rfl ?_
      refine g_iadd X65 K (q := 363) at_362 rfl rfl ?_
      refine g_icN X65 K (q := 366) at_363 (teq rfl).2 rfl ?_
      refine g_aload X65 K (q := 368) at_366 rfl rfl rfl ?_
      refine g_iconst X65 K (q := 369) (v := (3 : Int32)) at_368 (by decide) rfl ?_
      refine g_iald X65 K (q := 370) (v := (.int (p4 + (3 : Int32)))) e65 f82 (by decide) rfl at_369 rfl ?_
      refine g_iload X65 K (q := 372) at_370 rfl rfl ?_
      refine g_iconst X65 K (q := 373) (v := (3 : Int32)) at_372 (by decide) rfl ?_
      refine g_iadd X65 K (q := 374) at_373 rfl rfl ?_
      refine g_icN X65 K (q := 377) at_374 (teq rfl).2 rfl ?_
      refine g_iconst X65 K (q := 378) (v := (1 : Int32)) at_377 (by decide) rfl ?_
      refine g_goto X65 K (q := 382) at_378 (by decide) (by decide) ?_
      refine g_istore X65 K (q := 384) (L' := #[.val (.int p0), .val (.int p1), .val (.int p2), .val (.int p3), .val (.int p4), .val (.ref b1), .val (.ref b8), .val (.int (1 : Int32)), .val (.int (0 : Int32)), .val (.int nn), .val (.int aa), .val (.int ii), .val (.ref bx11), .val (.ref bx10), .val (.int (1 : Int32))]) at_382 rfl rfl ?_
      refine g_iload X65 K (q := 386) at_384 rfl rfl ?_
      refine g_nret X65 K (by simp) (z' := (1 : Int32)) (by decide) at_386 (by decide) (by decide) ?_
      exact ⟨rfl, N65⟩
    rcases hN with rfl | rfl | rfl | rfl
    · have hA : aa = (0 : Int32) := by
        have z : (1 : Int32).toInt = 1 := rfl
        rw [z] at hAt
        have q : aa.toInt = 0 := by omega
        rcases q with q
        · exact (own_lit q (by decide))
      rcases hA with rfl
      · have f83 := ((((((((((g16.other W45 (Or.inl ne67)).other W46 (Or.inl ne67)).other W47 (Or.inl ne67)).other W48 (Or.inl ne67)).other W49 (Or.inl ne68)).other W50 (Or.inl ne68)).other W51 (Or.inl ne68)).other W52 (Or.inl ne68)).other W54 (Or.inl ne71)).other W56 (Or.inl ne71))
        have f84 := ((((((((((g20.other W45 (Or.inl ne67)).other W46 (Or.inl ne67)).other W47 (Or.inl ne67)).other W48 (Or.inl ne67)).other W49 (Or.inl ne68)).other W50 (Or.inl ne68)).other W51 (Or.inl ne68)).other W52 (Or.inl ne68)).other W54 (Or.inl ne71)).other W56 (Or.inl ne71))
        have ne76 : bx9 ≠ bx11 := (Nat.ne_of_lt (Nat.lt_trans lz9_7 lz9_8))
        have ne77 : bx9 ≠ bx10 := (Nat.ne_of_lt lz9_7)
        have ne78 : bx9 ≠ bx12 := (Nat.ne_of_lt (Nat.lt_trans lz9_7 (Nat.lt_trans lz9_8 lz9_9)))
        have f85 := ((((((((((g31.other W45 ne76).other W46 ne76).other W47 ne76).other W48 ne76).other W49 ne77).other W50 ne77).other W51 ne77).other W52 ne77).other W54 ne78).other W56 ne78)
        have f86 := (f77.other W56 (Or.inl ne71))
        have ne79 : b8 ≠ bx5 := (Nat.ne_of_lt (Nat.lt_trans lkbx3 (Nat.lt_trans lz9_1 lz9_2)))
        have ne80 : bx5 ≠ bx9 := (Nat.ne_of_lt (Nat.lt_trans lz9_3 (Nat.lt_trans lz9_4 (Nat.lt_trans lz9_5 lz9_6))))
        have f87 := ((((((((((g11.wr W45).wr W46).wr W47).wr W48).wr W49).wr W50).wr W51).wr W52).wr W54).wr W56)
        refine g_virtual X56 K (q := 183) (W := 0) (a := b8) (w92 H) (w93 H) (nf_self K (w95 H)) (w95 H) (w94 H) (w37 H) (w96 H) (by decide) (rm11_37 l H b8 ii bx5 bx9 bx10 bx11 kB9 p3 (p3 + (1 : Int32)) (p3 + (2 : Int32)) (p3 + (3 : Int32)) kB11 kB5 bx12 kB12 h56 Ol56 f83 f84 f85 f79 f78 hIb gebx5 f86 ne79 F56 (Ne.symm ne74) gebx12 ne71 (Ne.symm ne80) ne78 (Ne.symm ne72) ne69 gebx11 ne74 ne72 (Ne.symm ne69)) e56 f87 rfl (argsL := [(.int ii), (.int (1 : Int32)), (.int (0 : Int32))]) (rest := []) (lenOf pd_1 rfl) rfl rfl (Nat.le_of_eq rfl) at_180 (by decide) (by decide) (by decide) (by decide) rfl ?_
        rintro T66 v66 L66 X66 ⟨rfl, N66q, Kc66, g67, g68, g69⟩
        have N66 := Fr.app N56 N66q
        have Ol66 := Ol56.keep Kc66 (allS gebx5 (allS gebx12 (allS gebx11 all0)))
        show Go p e below _ T66 (mkF m 183 #[.val (.int p0), .val (.int p1), .val (.int p2), .val (.int p3), .val (.int p4), .val (.ref b1), .val (.ref b8), .val (.int (1 : Int32)), .val (.int (0 : Int32)), .val (.int (1 : Int32)), .val (.int (0 : Int32)), .val (.int ii), .val (.ref bx11), .val (.ref bx10), .unset] [])
        exact jt T66 _ _ (p3) ((p3 + (1 : Int32))) ((p3 + (2 : Int32))) ((p3 + (3 : Int32))) X66 N66 Kc66 g67 g68 g69 ((own_mv ii _ hI).trans (congrArg Value.int (Int32.add_zero p3).symm)) (own_mv1 ii _ hI) (own_mv2 ii _ hI) (ok_last (by decide) (by decide)) (ok_ge (by decide) rfl) (ok_ge (by decide) rfl) (ok_ge (by decide) rfl)
    · have hA : aa = (0 : Int32) ∨ aa = (1 : Int32) := by
        have z : (2 : Int32).toInt = 2 := rfl
        rw [z] at hAt
        have q : aa.toInt = 0 ∨ aa.toInt = 1 := by omega
        rcases q with q | q
        · exact Or.inl (own_lit q (by decide))
        · exact Or.inr ((own_lit q (by decide)))
      rcases hA with rfl | rfl
      · have f88 := ((((((((((g16.other W45 (Or.inl ne67)).other W46 (Or.inl ne67)).other W47 (Or.inl ne67)).other W48 (Or.inl ne67)).other W49 (Or.inl ne68)).other W50 (Or.inl ne68)).other W51 (Or.inl ne68)).other W52 (Or.inl ne68)).other W54 (Or.inl ne71)).other W56 (Or.inl ne71))
        have f89 := ((((((((((g20.other W45 (Or.inl ne67)).other W46 (Or.inl ne67)).other W47 (Or.inl ne67)).other W48 (Or.inl ne67)).other W49 (Or.inl ne68)).other W50 (Or.inl ne68)).other W51 (Or.inl ne68)).other W52 (Or.inl ne68)).other W54 (Or.inl ne71)).other W56 (Or.inl ne71))
        have ne81 : bx9 ≠ bx11 := (Nat.ne_of_lt (Nat.lt_trans lz9_7 lz9_8))
        have ne82 : bx9 ≠ bx10 := (Nat.ne_of_lt lz9_7)
        have ne83 : bx9 ≠ bx12 := (Nat.ne_of_lt (Nat.lt_trans lz9_7 (Nat.lt_trans lz9_8 lz9_9)))
        have f90 := ((((((((((g31.other W45 ne81).other W46 ne81).other W47 ne81).other W48 ne81).other W49 ne82).other W50 ne82).other W51 ne82).other W52 ne82).other W54 ne83).other W56 ne83)
        have f91 := (f77.other W56 (Or.inl ne71))
        have ne84 : b8 ≠ bx5 := (Nat.ne_of_lt (Nat.lt_trans lkbx3 (Nat.lt_trans lz9_1 lz9_2)))
        have ne85 : bx5 ≠ bx9 := (Nat.ne_of_lt (Nat.lt_trans lz9_3 (Nat.lt_trans lz9_4 (Nat.lt_trans lz9_5 lz9_6))))
        have f92 := ((((((((((g11.wr W45).wr W46).wr W47).wr W48).wr W49).wr W50).wr W51).wr W52).wr W54).wr W56)
        refine g_virtual X56 K (q := 183) (W := 0) (a := b8) (w92 H) (w93 H) (nf_self K (w95 H)) (w95 H) (w94 H) (w37 H) (w96 H) (by decide) (rm11_38 l H b8 ii bx5 bx9 bx10 bx11 kB9 p3 (p3 + (1 : Int32)) (p3 + (2 : Int32)) (p3 + (3 : Int32)) kB11 kB5 bx12 kB12 h56 Ol56 f88 f89 f90 f79 f78 hIb gebx5 f91 ne84 F56 (Ne.symm ne74) gebx12 ne71 (Ne.symm ne85) ne83 (Ne.symm ne72) ne69 gebx11 ne74 ne72 (Ne.symm ne69)) e56 f92 rfl (argsL := [(.int ii), (.int (1 : Int32)), (.int (0 : Int32))]) (rest := []) (lenOf pd_1 rfl) rfl rfl (Nat.le_of_eq rfl) at_180 (by decide) (by decide) (by decide) (by decide) rfl ?_
        rintro T67 v67 L67 X67 ⟨rfl, N67q, Kc67, g70, g71, g72⟩
        have N67 := Fr.app N56 N67q
        have Ol67 := Ol56.keep Kc67 (allS gebx5 (allS gebx12 (allS gebx11 all0)))
        show Go p e below _ T67 (mkF m 183 #[.val (.int p0), .val (.int p1), .val (.int p2), .val (.int p3), .val (.int p4), .val (.ref b1), .val (.ref b8), .val (.int (1 : Int32)), .val (.int (0 : Int32)), .val (.int (2 : Int32)), .val (.int (0 : Int32)), .val (.int ii), .val (.ref bx11), .val (.ref bx10), .unset] [])
        exact jt T67 _ _ ((p3 + (1 : Int32))) ((p3 + (1 : Int32))) ((p3 + (2 : Int32))) ((p3 + (3 : Int32))) X67 N67 Kc67 g70 g71 g72 ((own_mv ii _ hI).trans (congrArg Value.int (Int32.add_zero p3).symm)) (own_mv1 ii _ hI) (own_mv2 ii _ hI) (ok_at (by decide) rfl rfl) (ok_last (by decide) (by decide)) (ok_ge (by decide) rfl) (ok_ge (by decide) rfl)
      · have f93 := ((((((((((g16.other W45 (Or.inl ne67)).other W46 (Or.inl ne67)).other W47 (Or.inl ne67)).other W48 (Or.inl ne67)).other W49 (Or.inl ne68)).other W50 (Or.inl ne68)).other W51 (Or.inl ne68)).other W52 (Or.inl ne68)).other W54 (Or.inl ne71)).other W56 (Or.inl ne71))
        have f94 := ((((((((((g20.other W45 (Or.inl ne67)).other W46 (Or.inl ne67)).other W47 (Or.inl ne67)).other W48 (Or.inl ne67)).other W49 (Or.inl ne68)).other W50 (Or.inl ne68)).other W51 (Or.inl ne68)).other W52 (Or.inl ne68)).other W54 (Or.inl ne71)).other W56 (Or.inl ne71))
        have ne86 : bx9 ≠ bx11 := (Nat.ne_of_lt (Nat.lt_trans lz9_7 lz9_8))
        have ne87 : bx9 ≠ bx10 := (Nat.ne_of_lt lz9_7)
        have ne88 : bx9 ≠ bx12 := (Nat.ne_of_lt (Nat.lt_trans lz9_7 (Nat.lt_trans lz9_8 lz9_9)))
        have f95 := ((((((((((g31.other W45 ne86).other W46 ne86).other W47 ne86).other W48 ne86).other W49 ne87).other W50 ne87).other W51 ne87).other W52 ne87).other W54 ne88).other W56 ne88)
        have f96 := (f77.other W56 (Or.inl ne71))
        have ne89 : b8 ≠ bx5 := (Nat.ne_of_lt (Nat.lt_trans lkbx3 (Nat.lt_trans lz9_1 lz9_2)))
        have ne90 : bx5 ≠ bx9 := (Nat.ne_of_lt (Nat.lt_trans lz9_3 (Nat.lt_trans lz9_4 (Nat.lt_trans lz9_5 lz9_6))))
        have f97 := ((((((((((g11.wr W45).wr W46).wr W47).wr W48).wr W49).wr W50).wr W51).wr W52).wr W54).wr W56)
        refine g_virtual X56 K (q := 183) (W := 0) (a := b8) (w92 H) (w93 H) (nf_self K (w95 H)) (w95 H) (w94 H) (w37 H) (w96 H) (by decide) (rm11_39 l H b8 ii bx5 bx9 bx10 bx11 kB9 p3 (p3 + (1 : Int32)) (p3 + (2 : Int32)) (p3 + (3 : Int32)) kB11 kB5 bx12 kB12 h56 Ol56 f93 f94 f95 f79 f78 hIb gebx5 f96 ne89 F56 (Ne.symm ne74) gebx12 ne71 (Ne.symm ne90) ne88 (Ne.symm ne72) ne69 gebx11 ne74 ne72 (Ne.symm ne69)) e56 f97 rfl (argsL := [(.int ii), (.int (1 : Int32)), (.int (1 : Int32))]) (rest := []) (lenOf pd_1 rfl) rfl rfl (Nat.le_of_eq rfl) at_180 (by decide) (by decide) (by decide) (by decide) rfl ?_
        rintro T68 v68 L68 X68 ⟨rfl, N68q, Kc68, g73, g74, g75⟩
        have N68 := Fr.app N56 N68q
        have Ol68 := Ol56.keep Kc68 (allS gebx5 (allS gebx12 (allS gebx11 all0)))
        show Go p e below _ T68 (mkF m 183 #[.val (.int p0), .val (.int p1), .val (.int p2), .val (.int p3), .val (.int p4), .val (.ref b1), .val (.ref b8), .val (.int (1 : Int32)), .val (.int (0 : Int32)), .val (.int (2 : Int32)), .val (.int (1 : Int32)), .val (.int ii), .val (.ref bx11), .val (.ref bx10), .unset] [])
        exact jt T68 _ _ (p3) ((p3 + (1 : Int32))) ((p3 + (2 : Int32))) ((p3 + (3 : Int32))) X68 N68 Kc68 g73 g74 g75 (own_mv ii _ hI) (own_mv1 ii _ hI) (own_mv2 ii _ hI) (ok_no (by decide) (by decide) (Int32.add_zero p3).symm) (ok_last (by decide) (by decide)) (ok_ge (by decide) rfl) (ok_ge (by decide) rfl)
    · have hA : aa = (0 : Int32) ∨ aa = (1 : Int32) ∨ aa = (2 : Int32) := by
        have z : (3 : Int32).toInt = 3 := rfl
        rw [z] at hAt
        have q : aa.toInt = 0 ∨ aa.toInt = 1 ∨ aa.toInt = 2 := by omega
        rcases q with q | q | q
        · exact Or.inl (own_lit q (by decide))
        · exact Or.inr (Or.inl (own_lit q (by decide)))
        · exact Or.inr (Or.inr ((own_lit q (by decide))))
      rcases hA with rfl | rfl | rfl
      · have f98 := ((((((((((g16.other W45 (Or.inl ne67)).other W46 (Or.inl ne67)).other W47 (Or.inl ne67)).other W48 (Or.inl ne67)).other W49 (Or.inl ne68)).other W50 (Or.inl ne68)).other W51 (Or.inl ne68)).other W52 (Or.inl ne68)).other W54 (Or.inl ne71)).other W56 (Or.inl ne71))
        have f99 := ((((((((((g20.other W45 (Or.inl ne67)).other W46 (Or.inl ne67)).other W47 (Or.inl ne67)).other W48 (Or.inl ne67)).other W49 (Or.inl ne68)).other W50 (Or.inl ne68)).other W51 (Or.inl ne68)).other W52 (Or.inl ne68)).other W54 (Or.inl ne71)).other W56 (Or.inl ne71))
        have ne91 : bx9 ≠ bx11 := (Nat.ne_of_lt (Nat.lt_trans lz9_7 lz9_8))
        have ne92 : bx9 ≠ bx10 := (Nat.ne_of_lt lz9_7)
        have ne93 : bx9 ≠ bx12 := (Nat.ne_of_lt (Nat.lt_trans lz9_7 (Nat.lt_trans lz9_8 lz9_9)))
        have f100 := ((((((((((g31.other W45 ne91).other W46 ne91).other W47 ne91).other W48 ne91).other W49 ne92).other W50 ne92).other W51 ne92).other W52 ne92).other W54 ne93).other W56 ne93)
        have f101 := (f77.other W56 (Or.inl ne71))
        have ne94 : b8 ≠ bx5 := (Nat.ne_of_lt (Nat.lt_trans lkbx3 (Nat.lt_trans lz9_1 lz9_2)))
        have ne95 : bx5 ≠ bx9 := (Nat.ne_of_lt (Nat.lt_trans lz9_3 (Nat.lt_trans lz9_4 (Nat.lt_trans lz9_5 lz9_6))))
        have f102 := ((((((((((g11.wr W45).wr W46).wr W47).wr W48).wr W49).wr W50).wr W51).wr W52).wr W54).wr W56)
        refine g_virtual X56 K (q := 183) (W := 0) (a := b8) (w92 H) (w93 H) (nf_self K (w95 H)) (w95 H) (w94 H) (w37 H) (w96 H) (by decide) (rm11_40 l H b8 ii bx5 bx9 bx10 bx11 kB9 p3 (p3 + (1 : Int32)) (p3 + (2 : Int32)) (p3 + (3 : Int32)) kB11 kB5 bx12 kB12 h56 Ol56 f98 f99 f100 f79 f78 hIb gebx5 f101 ne94 F56 (Ne.symm ne74) gebx12 ne71 (Ne.symm ne95) ne93 (Ne.symm ne72) ne69 gebx11 ne74 ne72 (Ne.symm ne69)) e56 f102 rfl (argsL := [(.int ii), (.int (1 : Int32)), (.int (0 : Int32))]) (rest := []) (lenOf pd_1 rfl) rfl rfl (Nat.le_of_eq rfl) at_180 (by decide) (by decide) (by decide) (by decide) rfl ?_
        rintro T69 v69 L69 X69 ⟨rfl, N69q, Kc69, g76, g77, g78⟩
        have N69 := Fr.app N56 N69q
        have Ol69 := Ol56.keep Kc69 (allS gebx5 (allS gebx12 (allS gebx11 all0)))
        show Go p e below _ T69 (mkF m 183 #[.val (.int p0), .val (.int p1), .val (.int p2), .val (.int p3), .val (.int p4), .val (.ref b1), .val (.ref b8), .val (.int (1 : Int32)), .val (.int (0 : Int32)), .val (.int (3 : Int32)), .val (.int (0 : Int32)), .val (.int ii), .val (.ref bx11), .val (.ref bx10), .unset] [])
        exact jt T69 _ _ ((p3 + (2 : Int32))) ((p3 + (1 : Int32))) ((p3 + (2 : Int32))) ((p3 + (3 : Int32))) X69 N69 Kc69 g76 g77 g78 ((own_mv ii _ hI).trans (congrArg Value.int (Int32.add_zero p3).symm)) (own_mv1 ii _ hI) (own_mv2 ii _ hI) (ok_at (by decide) rfl rfl) (ok_no (by decide) (by decide) rfl) (ok_last (by decide) (by decide)) (ok_ge (by decide) rfl)
      · have f103 := ((((((((((g16.other W45 (Or.inl ne67)).other W46 (Or.inl ne67)).other W47 (Or.inl ne67)).other W48 (Or.inl ne67)).other W49 (Or.inl ne68)).other W50 (Or.inl ne68)).other W51 (Or.inl ne68)).other W52 (Or.inl ne68)).other W54 (Or.inl ne71)).other W56 (Or.inl ne71))
        have f104 := ((((((((((g20.other W45 (Or.inl ne67)).other W46 (Or.inl ne67)).other W47 (Or.inl ne67)).other W48 (Or.inl ne67)).other W49 (Or.inl ne68)).other W50 (Or.inl ne68)).other W51 (Or.inl ne68)).other W52 (Or.inl ne68)).other W54 (Or.inl ne71)).other W56 (Or.inl ne71))
        have ne96 : bx9 ≠ bx11 := (Nat.ne_of_lt (Nat.lt_trans lz9_7 lz9_8))
        have ne97 : bx9 ≠ bx10 := (Nat.ne_of_lt lz9_7)
        have ne98 : bx9 ≠ bx12 := (Nat.ne_of_lt (Nat.lt_trans lz9_7 (Nat.lt_trans lz9_8 lz9_9)))
        have f105 := ((((((((((g31.other W45 ne96).other W46 ne96).other W47 ne96).other W48 ne96).other W49 ne97).other W50 ne97).other W51 ne97).other W52 ne97).other W54 ne98).other W56 ne98)
        have f106 := (f77.other W56 (Or.inl ne71))
        have ne99 : b8 ≠ bx5 := (Nat.ne_of_lt (Nat.lt_trans lkbx3 (Nat.lt_trans lz9_1 lz9_2)))
        have ne100 : bx5 ≠ bx9 := (Nat.ne_of_lt (Nat.lt_trans lz9_3 (Nat.lt_trans lz9_4 (Nat.lt_trans lz9_5 lz9_6))))
        have f107 := ((((((((((g11.wr W45).wr W46).wr W47).wr W48).wr W49).wr W50).wr W51).wr W52).wr W54).wr W56)
        refine g_virtual X56 K (q := 183) (W := 0) (a := b8) (w92 H) (w93 H) (nf_self K (w95 H)) (w95 H) (w94 H) (w37 H) (w96 H) (by decide) (rm11_41 l H b8 ii bx5 bx9 bx10 bx11 kB9 p3 (p3 + (1 : Int32)) (p3 + (2 : Int32)) (p3 + (3 : Int32)) kB11 kB5 bx12 kB12 h56 Ol56 f103 f104 f105 f79 f78 hIb gebx5 f106 ne99 F56 (Ne.symm ne74) gebx12 ne71 (Ne.symm ne100) ne98 (Ne.symm ne72) ne69 gebx11 ne74 ne72 (Ne.symm ne69)) e56 f107 rfl (argsL := [(.int ii), (.int (1 : Int32)), (.int (1 : Int32))]) (rest := []) (lenOf pd_1 rfl) rfl rfl (Nat.le_of_eq rfl) at_180 (by decide) (by decide) (by decide) (by decide) rfl ?_
        rintro T70 v70 L70 X70 ⟨rfl, N70q, Kc70, g79, g80, g81⟩
        have N70 := Fr.app N56 N70q
        have Ol70 := Ol56.keep Kc70 (allS gebx5 (allS gebx12 (allS gebx11 all0)))
        show Go p e below _ T70 (mkF m 183 #[.val (.int p0), .val (.int p1), .val (.int p2), .val (.int p3), .val (.int p4), .val (.ref b1), .val (.ref b8), .val (.int (1 : Int32)), .val (.int (0 : Int32)), .val (.int (3 : Int32)), .val (.int (1 : Int32)), .val (.int ii), .val (.ref bx11), .val (.ref bx10), .unset] [])
        exact jt T70 _ _ (p3) ((p3 + (2 : Int32))) ((p3 + (2 : Int32))) ((p3 + (3 : Int32))) X70 N70 Kc70 g79 g80 g81 (own_mv ii _ hI) (own_mv1 ii _ hI) (own_mv2 ii _ hI) (ok_no (by decide) (by decide) (Int32.add_zero p3).symm) (ok_at (by decide) rfl rfl) (ok_last (by decide) (by decide)) (ok_ge (by decide) rfl)
      · have f108 := ((((((((((g16.other W45 (Or.inl ne67)).other W46 (Or.inl ne67)).other W47 (Or.inl ne67)).other W48 (Or.inl ne67)).other W49 (Or.inl ne68)).other W50 (Or.inl ne68)).other W51 (Or.inl ne68)).other W52 (Or.inl ne68)).other W54 (Or.inl ne71)).other W56 (Or.inl ne71))
        have f109 := ((((((((((g20.other W45 (Or.inl ne67)).other W46 (Or.inl ne67)).other W47 (Or.inl ne67)).other W48 (Or.inl ne67)).other W49 (Or.inl ne68)).other W50 (Or.inl ne68)).other W51 (Or.inl ne68)).other W52 (Or.inl ne68)).other W54 (Or.inl ne71)).other W56 (Or.inl ne71))
        have ne101 : bx9 ≠ bx11 := (Nat.ne_of_lt (Nat.lt_trans lz9_7 lz9_8))
        have ne102 : bx9 ≠ bx10 := (Nat.ne_of_lt lz9_7)
        have ne103 : bx9 ≠ bx12 := (Nat.ne_of_lt (Nat.lt_trans lz9_7 (Nat.lt_trans lz9_8 lz9_9)))
        have f110 := ((((((((((g31.other W45 ne101).other W46 ne101).other W47 ne101).other W48 ne101).other W49 ne102).other W50 ne102).other W51 ne102).other W52 ne102).other W54 ne103).other W56 ne103)
        have f111 := (f77.other W56 (Or.inl ne71))
        have ne104 : b8 ≠ bx5 := (Nat.ne_of_lt (Nat.lt_trans lkbx3 (Nat.lt_trans lz9_1 lz9_2)))
        have ne105 : bx5 ≠ bx9 := (Nat.ne_of_lt (Nat.lt_trans lz9_3 (Nat.lt_trans lz9_4 (Nat.lt_trans lz9_5 lz9_6))))
        have f112 := ((((((((((g11.wr W45).wr W46).wr W47).wr W48).wr W49).wr W50).wr W51).wr W52).wr W54).wr W56)
        refine g_virtual X56 K (q := 183) (W := 0) (a := b8) (w92 H) (w93 H) (nf_self K (w95 H)) (w95 H) (w94 H) (w37 H) (w96 H) (by decide) (rm11_42 l H b8 ii bx5 bx9 bx10 bx11 kB9 p3 (p3 + (1 : Int32)) (p3 + (2 : Int32)) (p3 + (3 : Int32)) kB11 kB5 bx12 kB12 h56 Ol56 f108 f109 f110 f79 f78 hIb gebx5 f111 ne104 F56 (Ne.symm ne74) gebx12 ne71 (Ne.symm ne105) ne103 (Ne.symm ne72) ne69 gebx11 ne74 ne72 (Ne.symm ne69)) e56 f112 rfl (argsL := [(.int ii), (.int (1 : Int32)), (.int (2 : Int32))]) (rest := []) (lenOf pd_1 rfl) rfl rfl (Nat.le_of_eq rfl) at_180 (by decide) (by decide) (by decide) (by decide) rfl ?_
        rintro T71 v71 L71 X71 ⟨rfl, N71q, Kc71, g82, g83, g84⟩
        have N71 := Fr.app N56 N71q
        have Ol71 := Ol56.keep Kc71 (allS gebx5 (allS gebx12 (allS gebx11 all0)))
        show Go p e below _ T71 (mkF m 183 #[.val (.int p0), .val (.int p1), .val (.int p2), .val (.int p3), .val (.int p4), .val (.ref b1), .val (.ref b8), .val (.int (1 : Int32)), .val (.int (0 : Int32)), .val (.int (3 : Int32)), .val (.int (2 : Int32)), .val (.int ii), .val (.ref bx11), .val (.ref bx10), .unset] [])
        exact jt T71 _ _ (p3) ((p3 + (1 : Int32))) ((p3 + (2 : Int32))) ((p3 + (3 : Int32))) X71 N71 Kc71 g82 g83 g84 (own_mv ii _ hI) (own_mv1 ii _ hI) (own_mv2 ii _ hI) (ok_no (by decide) (by decide) (Int32.add_zero p3).symm) (ok_no (by decide) (by decide) rfl) (ok_last (by decide) (by decide)) (ok_ge (by decide) rfl)
    · have hA : aa = (0 : Int32) ∨ aa = (1 : Int32) ∨ aa = (2 : Int32) ∨ aa = (3 : Int32) := by
        have z : (4 : Int32).toInt = 4 := rfl
        rw [z] at hAt
        have q : aa.toInt = 0 ∨ aa.toInt = 1 ∨ aa.toInt = 2 ∨ aa.toInt = 3 := by omega
        rcases q with q | q | q | q
        · exact Or.inl (own_lit q (by decide))
        · exact Or.inr (Or.inl (own_lit q (by decide)))
        · exact Or.inr (Or.inr (Or.inl (own_lit q (by decide))))
        · exact Or.inr (Or.inr (Or.inr ((own_lit q (by decide)))))
      rcases hA with rfl | rfl | rfl | rfl
      · have f113 := ((((((((((g16.other W45 (Or.inl ne67)).other W46 (Or.inl ne67)).other W47 (Or.inl ne67)).other W48 (Or.inl ne67)).other W49 (Or.inl ne68)).other W50 (Or.inl ne68)).other W51 (Or.inl ne68)).other W52 (Or.inl ne68)).other W54 (Or.inl ne71)).other W56 (Or.inl ne71))
        have f114 := ((((((((((g20.other W45 (Or.inl ne67)).other W46 (Or.inl ne67)).other W47 (Or.inl ne67)).other W48 (Or.inl ne67)).other W49 (Or.inl ne68)).other W50 (Or.inl ne68)).other W51 (Or.inl ne68)).other W52 (Or.inl ne68)).other W54 (Or.inl ne71)).other W56 (Or.inl ne71))
        have ne106 : bx9 ≠ bx11 := (Nat.ne_of_lt (Nat.lt_trans lz9_7 lz9_8))
        have ne107 : bx9 ≠ bx10 := (Nat.ne_of_lt lz9_7)
        have ne108 : bx9 ≠ bx12 := (Nat.ne_of_lt (Nat.lt_trans lz9_7 (Nat.lt_trans lz9_8 lz9_9)))
        have f115 := ((((((((((g31.other W45 ne106).other W46 ne106).other W47 ne106).other W48 ne106).other W49 ne107).other W50 ne107).other W51 ne107).other W52 ne107).other W54 ne108).other W56 ne108)
        have f116 := (f77.other W56 (Or.inl ne71))
        have ne109 : b8 ≠ bx5 := (Nat.ne_of_lt (Nat.lt_trans lkbx3 (Nat.lt_trans lz9_1 lz9_2)))
        have ne110 : bx5 ≠ bx9 := (Nat.ne_of_lt (Nat.lt_trans lz9_3 (Nat.lt_trans lz9_4 (Nat.lt_trans lz9_5 lz9_6))))
        have f117 := ((((((((((g11.wr W45).wr W46).wr W47).wr W48).wr W49).wr W50).wr W51).wr W52).wr W54).wr W56)
        refine g_virtual X56 K (q := 183) (W := 0) (a := b8) (w92 H) (w93 H) (nf_self K (w95 H)) (w95 H) (w94 H) (w37 H) (w96 H) (by decide) (rm11_43 l H b8 ii bx5 bx9 bx10 bx11 kB9 p3 (p3 + (1 : Int32)) (p3 + (2 : Int32)) (p3 + (3 : Int32)) kB11 kB5 bx12 kB12 h56 Ol56 f113 f114 f115 f79 f78 hIb gebx5 f116 ne109 F56 (Ne.symm ne74) gebx12 ne71 (Ne.symm ne110) ne108 (Ne.symm ne72) ne69 gebx11 ne74 ne72 (Ne.symm ne69)) e56 f117 rfl (argsL := [(.int ii), (.int (1 : Int32)), (.int (0 : Int32))]) (rest := []) (lenOf pd_1 rfl) rfl rfl (Nat.le_of_eq rfl) at_180 (by decide) (by decide) (by decide) (by decide) rfl ?_
        rintro T72 v72 L72 X72 ⟨rfl, N72q, Kc72, g85, g86, g87⟩
        have N72 := Fr.app N56 N72q
        have Ol72 := Ol56.keep Kc72 (allS gebx5 (allS gebx12 (allS gebx11 all0)))
        show Go p e below _ T72 (mkF m 183 #[.val (.int p0), .val (.int p1), .val (.int p2), .val (.int p3), .val (.int p4), .val (.ref b1), .val (.ref b8), .val (.int (1 : Int32)), .val (.int (0 : Int32)), .val (.int (4 : Int32)), .val (.int (0 : Int32)), .val (.int ii), .val (.ref bx11), .val (.ref bx10), .unset] [])
        exact jt T72 _ _ ((p3 + (3 : Int32))) ((p3 + (1 : Int32))) ((p3 + (2 : Int32))) ((p3 + (3 : Int32))) X72 N72 Kc72 g85 g86 g87 ((own_mv ii _ hI).trans (congrArg Value.int (Int32.add_zero p3).symm)) (own_mv1 ii _ hI) (own_mv2 ii _ hI) (ok_at (by decide) rfl rfl) (ok_no (by decide) (by decide) rfl) (ok_no (by decide) (by decide) rfl) (ok_last (by decide) (by decide))
      · have f118 := ((((((((((g16.other W45 (Or.inl ne67)).other W46 (Or.inl ne67)).other W47 (Or.inl ne67)).other W48 (Or.inl ne67)).other W49 (Or.inl ne68)).other W50 (Or.inl ne68)).other W51 (Or.inl ne68)).other W52 (Or.inl ne68)).other W54 (Or.inl ne71)).other W56 (Or.inl ne71))
        have f119 := ((((((((((g20.other W45 (Or.inl ne67)).other W46 (Or.inl ne67)).other W47 (Or.inl ne67)).other W48 (Or.inl ne67)).other W49 (Or.inl ne68)).other W50 (Or.inl ne68)).other W51 (Or.inl ne68)).other W52 (Or.inl ne68)).other W54 (Or.inl ne71)).other W56 (Or.inl ne71))
        have ne111 : bx9 ≠ bx11 := (Nat.ne_of_lt (Nat.lt_trans lz9_7 lz9_8))
        have ne112 : bx9 ≠ bx10 := (Nat.ne_of_lt lz9_7)
        have ne113 : bx9 ≠ bx12 := (Nat.ne_of_lt (Nat.lt_trans lz9_7 (Nat.lt_trans lz9_8 lz9_9)))
        have f120 := ((((((((((g31.other W45 ne111).other W46 ne111).other W47 ne111).other W48 ne111).other W49 ne112).other W50 ne112).other W51 ne112).other W52 ne112).other W54 ne113).other W56 ne113)
        have f121 := (f77.other W56 (Or.inl ne71))
        have ne114 : b8 ≠ bx5 := (Nat.ne_of_lt (Nat.lt_trans lkbx3 (Nat.lt_trans lz9_1 lz9_2)))
        have ne115 : bx5 ≠ bx9 := (Nat.ne_of_lt (Nat.lt_trans lz9_3 (Nat.lt_trans lz9_4 (Nat.lt_trans lz9_5 lz9_6))))
        have f122 := ((((((((((g11.wr W45).wr W46).wr W47).wr W48).wr W49).wr W50).wr W51).wr W52).wr W54).wr W56)
        refine g_virtual X56 K (q := 183) (W := 0) (a := b8) (w92 H) (w93 H) (nf_self K (w95 H)) (w95 H) (w94 H) (w37 H) (w96 H) (by decide) (rm11_44 l H b8 ii bx5 bx9 bx10 bx11 kB9 p3 (p3 + (1 : Int32)) (p3 + (2 : Int32)) (p3 + (3 : Int32)) kB11 kB5 bx12 kB12 h56 Ol56 f118 f119 f120 f79 f78 hIb gebx5 f121 ne114 F56 (Ne.symm ne74) gebx12 ne71 (Ne.symm ne115) ne113 (Ne.symm ne72) ne69 gebx11 ne74 ne72 (Ne.symm ne69)) e56 f122 rfl (argsL := [(.int ii), (.int (1 : Int32)), (.int (1 : Int32))]) (rest := []) (lenOf pd_1 rfl) rfl rfl (Nat.le_of_eq rfl) at_180 (by decide) (by decide) (by decide) (by decide) rfl ?_
        rintro T73 v73 L73 X73 ⟨rfl, N73q, Kc73, g88, g89, g90⟩
        have N73 := Fr.app N56 N73q
        have Ol73 := Ol56.keep Kc73 (allS gebx5 (allS gebx12 (allS gebx11 all0)))
        show Go p e below _ T73 (mkF m 183 #[.val (.int p0), .val (.int p1), .val (.int p2), .val (.int p3), .val (.int p4), .val (.ref b1), .val (.ref b8), .val (.int (1 : Int32)), .val (.int (0 : Int32)), .val (.int (4 : Int32)), .val (.int (1 : Int32)), .val (.int ii), .val (.ref bx11), .val (.ref bx10), .unset] [])
        exact jt T73 _ _ (p3) ((p3 + (3 : Int32))) ((p3 + (2 : Int32))) ((p3 + (3 : Int32))) X73 N73 Kc73 g88 g89 g90 (own_mv ii _ hI) (own_mv1 ii _ hI) (own_mv2 ii _ hI) (ok_no (by decide) (by decide) (Int32.add_zero p3).symm) (ok_at (by decide) rfl rfl) (ok_no (by decide) (by decide) rfl) (ok_last (by decide) (by decide))
      · have f123 := ((((((((((g16.other W45 (Or.inl ne67)).other W46 (Or.inl ne67)).other W47 (Or.inl ne67)).other W48 (Or.inl ne67)).other W49 (Or.inl ne68)).other W50 (Or.inl ne68)).other W51 (Or.inl ne68)).other W52 (Or.inl ne68)).other W54 (Or.inl ne71)).other W56 (Or.inl ne71))
        have f124 := ((((((((((g20.other W45 (Or.inl ne67)).other W46 (Or.inl ne67)).other W47 (Or.inl ne67)).other W48 (Or.inl ne67)).other W49 (Or.inl ne68)).other W50 (Or.inl ne68)).other W51 (Or.inl ne68)).other W52 (Or.inl ne68)).other W54 (Or.inl ne71)).other W56 (Or.inl ne71))
        have ne116 : bx9 ≠ bx11 := (Nat.ne_of_lt (Nat.lt_trans lz9_7 lz9_8))
        have ne117 : bx9 ≠ bx10 := (Nat.ne_of_lt lz9_7)
        have ne118 : bx9 ≠ bx12 := (Nat.ne_of_lt (Nat.lt_trans lz9_7 (Nat.lt_trans lz9_8 lz9_9)))
        have f125 := ((((((((((g31.other W45 ne116).other W46 ne116).other W47 ne116).other W48 ne116).other W49 ne117).other W50 ne117).other W51 ne117).other W52 ne117).other W54 ne118).other W56 ne118)
        have f126 := (f77.other W56 (Or.inl ne71))
        have ne119 : b8 ≠ bx5 := (Nat.ne_of_lt (Nat.lt_trans lkbx3 (Nat.lt_trans lz9_1 lz9_2)))
        have ne120 : bx5 ≠ bx9 := (Nat.ne_of_lt (Nat.lt_trans lz9_3 (Nat.lt_trans lz9_4 (Nat.lt_trans lz9_5 lz9_6))))
        have f127 := ((((((((((g11.wr W45).wr W46).wr W47).wr W48).wr W49).wr W50).wr W51).wr W52).wr W54).wr W56)
        refine g_virtual X56 K (q := 183) (W := 0) (a := b8) (w92 H) (w93 H) (nf_self K (w95 H)) (w95 H) (w94 H) (w37 H) (w96 H) (by decide) (rm11_45 l H b8 ii bx5 bx9 bx10 bx11 kB9 p3 (p3 + (1 : Int32)) (p3 + (2 : Int32)) (p3 + (3 : Int32)) kB11 kB5 bx12 kB12 h56 Ol56 f123 f124 f125 f79 f78 hIb gebx5 f126 ne119 F56 (Ne.symm ne74) gebx12 ne71 (Ne.symm ne120) ne118 (Ne.symm ne72) ne69 gebx11 ne74 ne72 (Ne.symm ne69)) e56 f127 rfl (argsL := [(.int ii), (.int (1 : Int32)), (.int (2 : Int32))]) (rest := []) (lenOf pd_1 rfl) rfl rfl (Nat.le_of_eq rfl) at_180 (by decide) (by decide) (by decide) (by decide) rfl ?_
        rintro T74 v74 L74 X74 ⟨rfl, N74q, Kc74, g91, g92, g93⟩
        have N74 := Fr.app N56 N74q
        have Ol74 := Ol56.keep Kc74 (allS gebx5 (allS gebx12 (allS gebx11 all0)))
        show Go p e below _ T74 (mkF m 183 #[.val (.int p0), .val (.int p1), .val (.int p2), .val (.int p3), .val (.int p4), .val (.ref b1), .val (.ref b8), .val (.int (1 : Int32)), .val (.int (0 : Int32)), .val (.int (4 : Int32)), .val (.int (2 : Int32)), .val (.int ii), .val (.ref bx11), .val (.ref bx10), .unset] [])
        exact jt T74 _ _ (p3) ((p3 + (1 : Int32))) ((p3 + (3 : Int32))) ((p3 + (3 : Int32))) X74 N74 Kc74 g91 g92 g93 (own_mv ii _ hI) (own_mv1 ii _ hI) (own_mv2 ii _ hI) (ok_no (by decide) (by decide) (Int32.add_zero p3).symm) (ok_no (by decide) (by decide) rfl) (ok_at (by decide) rfl rfl) (ok_last (by decide) (by decide))
      · have f128 := ((((((((((g16.other W45 (Or.inl ne67)).other W46 (Or.inl ne67)).other W47 (Or.inl ne67)).other W48 (Or.inl ne67)).other W49 (Or.inl ne68)).other W50 (Or.inl ne68)).other W51 (Or.inl ne68)).other W52 (Or.inl ne68)).other W54 (Or.inl ne71)).other W56 (Or.inl ne71))
        have f129 := ((((((((((g20.other W45 (Or.inl ne67)).other W46 (Or.inl ne67)).other W47 (Or.inl ne67)).other W48 (Or.inl ne67)).other W49 (Or.inl ne68)).other W50 (Or.inl ne68)).other W51 (Or.inl ne68)).other W52 (Or.inl ne68)).other W54 (Or.inl ne71)).other W56 (Or.inl ne71))
        have ne121 : bx9 ≠ bx11 := (Nat.ne_of_lt (Nat.lt_trans lz9_7 lz9_8))
        have ne122 : bx9 ≠ bx10 := (Nat.ne_of_lt lz9_7)
        have ne123 : bx9 ≠ bx12 := (Nat.ne_of_lt (Nat.lt_trans lz9_7 (Nat.lt_trans lz9_8 lz9_9)))
        have f130 := ((((((((((g31.other W45 ne121).other W46 ne121).other W47 ne121).other W48 ne121).other W49 ne122).other W50 ne122).other W51 ne122).other W52 ne122).other W54 ne123).other W56 ne123)
        have f131 := (f77.other W56 (Or.inl ne71))
        have ne124 : b8 ≠ bx5 := (Nat.ne_of_lt (Nat.lt_trans lkbx3 (Nat.lt_trans lz9_1 lz9_2)))
        have ne125 : bx5 ≠ bx9 := (Nat.ne_of_lt (Nat.lt_trans lz9_3 (Nat.lt_trans lz9_4 (Nat.lt_trans lz9_5 lz9_6))))
        have f132 := ((((((((((g11.wr W45).wr W46).wr W47).wr W48).wr W49).wr W50).wr W51).wr W52).wr W54).wr W56)
        refine g_virtual X56 K (q := 183) (W := 0) (a := b8) (w92 H) (w93 H) (nf_self K (w95 H)) (w95 H) (w94 H) (w37 H) (w96 H) (by decide) (rm11_46 l H b8 ii bx5 bx9 bx10 bx11 kB9 p3 (p3 + (1 : Int32)) (p3 + (2 : Int32)) (p3 + (3 : Int32)) kB11 kB5 bx12 kB12 h56 Ol56 f128 f129 f130 f79 f78 hIb gebx5 f131 ne124 F56 (Ne.symm ne74) gebx12 ne71 (Ne.symm ne125) ne123 (Ne.symm ne72) ne69 gebx11 ne74 ne72 (Ne.symm ne69)) e56 f132 rfl (argsL := [(.int ii), (.int (1 : Int32)), (.int (3 : Int32))]) (rest := []) (lenOf pd_1 rfl) rfl rfl (Nat.le_of_eq rfl) at_180 (by decide) (by decide) (by decide) (by decide) rfl ?_
        rintro T75 v75 L75 X75 ⟨rfl, N75q, Kc75, g94, g95, g96⟩
        have N75 := Fr.app N56 N75q
        have Ol75 := Ol56.keep Kc75 (allS gebx5 (allS gebx12 (allS gebx11 all0)))
        show Go p e below _ T75 (mkF m 183 #[.val (.int p0), .val (.int p1), .val (.int p2), .val (.int p3), .val (.int p4), .val (.ref b1), .val (.ref b8), .val (.int (1 : Int32)), .val (.int (0 : Int32)), .val (.int (4 : Int32)), .val (.int (3 : Int32)), .val (.int ii), .val (.ref bx11), .val (.ref bx10), .unset] [])
        exact jt T75 _ _ (p3) ((p3 + (1 : Int32))) ((p3 + (2 : Int32))) ((p3 + (3 : Int32))) X75 N75 Kc75 g94 g95 g96 (own_mv ii _ hI) (own_mv1 ii _ hI) (own_mv2 ii _ hI) (ok_no (by decide) (by decide) (Int32.add_zero p3).symm) (ok_no (by decide) (by decide) rfl) (ok_no (by decide) (by decide) rfl) (ok_last (by decide) (by decide))
set_option maxRecDepth 65536 in
set_option maxHeartbeats 40000000 in
theorem comes_1 {Post : Tables → Env → Array Value → State → Outcome → State → Prop} (hpost : ∀ tb e args s v u, (limb_1_1.after args s (.returned v) u = true ∧ limb_1_2.after args s (.returned v) u = true ∧ True) → FrameEnd s (.returned v) u (Jvm.fieldLocs frame_1_writes args s ++ Jvm.arrayLocs frame_1_arrays args s ++ Jvm.staticLocs frame_1_statics s) 48 320 → Post tb e args s (.returned v) u) :
    ArmFor flags0 classFile x code maxLocals ret World_1 tables_1 room_1 Calls_1 rest_1 Pre_1 Post := by
  intro l hfl _ _ p e ha hc hk s m args below hf hA hF happ hP
  obtain ⟨hcalls, hrest, hpre⟩ := hP
  obtain ⟨-, -, -, hnamed, -, -, -, hat⟩ := (Spec.applies_iff hf).mp happ
  obtain ⟨hg, hn⟩ := and_e (Cond.before_iff.mp (show (Jvm.Cond.and given_1 narrow_1).before args s = true from hpre))
  obtain ⟨g0, hg0⟩ := and_e hg
  obtain ⟨g1, hg1⟩ := and_e hg0
  obtain ⟨g2, hg2⟩ := and_e hg1
  obtain ⟨g3, hg3⟩ := and_e hg2
  obtain ⟨g4, hg4⟩ := and_e hg3
  have g5 := hg4
  obtain ⟨u0, u1, u2, u3, u4, rfl⟩ : ∃ u0 u1 u2 u3 u4 : Value, args = #[u0, u1, u2, u3, u4] := by
    have hs : args.size = 5 := by simpa [Cond.value, given_1] using g0
    obtain ⟨L⟩ := args
    match L, hs with
    | [u0, u1, u2, u3, u4], _ => exact ⟨u0, u1, u2, u3, u4, rfl⟩
  have hw := fun d (hd : d ∈ tables_1) => atoms_spec (ws := Jvm.Cond.code x code maxLocals ret :: tables_1) hat d (List.mem_cons_of_mem _ hd)
  have hfit : Fit s := fun {y c} hc i hi => by
    obtain ⟨ha, rfl⟩ := Array.getElem?_eq_some_iff.mp hc
    have q := List.all_eq_true.mp ((Array.all_eq_true_iff_forall_mem.mp hF) _ (Array.getElem_mem ha)) i (List.mem_range.mpr hi)
    simpa [Array.getElem?_eq_getElem hi] using q
  obtain ⟨i0, ei0⟩ := is_v g1
  obtain rfl : u0 = (.int i0) := Option.some.inj ei0
  obtain ⟨i1, ei1⟩ := is_v g2
  obtain rfl : u1 = (.int i1) := Option.some.inj ei1
  obtain ⟨i2, ei2⟩ := is_v g3
  obtain rfl : u2 = (.int i2) := Option.some.inj ei2
  obtain ⟨i3, ei3⟩ := is_v g4
  obtain rfl : u3 = (.int i3) := Option.some.inj ei3
  obtain ⟨i4, ei4⟩ := is_v g5
  obtain rfl : u4 = (.int i4) := Option.some.inj ei4
  obtain ⟨n, o, h1, h2, h3, _, L, rfl, ⟨rfl, N⟩, hq⟩ := rm0 l (Z := s) ⟨hw, hn, hfit⟩ i0 i1 i2 i3 i4 s.heap (Old.start s) p e ha hc hk s m _ below hf ((Spec.applies_iff_loose hf).mp happ).1 ⟨rfl, State.Warmed39.refl s, rfl⟩ trivial
  refine ⟨n, _, h1, h2, h3, hpost _ _ _ _ _ _ ⟨Cond.after_iff.mpr rfl, Cond.after_iff.mpr (eq_i res_at (Term.int_eval (1)) rfl), trivial⟩ ⟨hq.1, hq.2.1, (hq.2.2.sift fun y hy => Or.inr (N y hy)).mono (by decide) (by decide)⟩⟩
theorem main_1_1 : Claimed_1_1 := comes_1 fun _ _ _ _ _ _ h hF => ⟨h.1, hF⟩
theorem main_1_2 : Claimed_1_2 := comes_1 fun _ _ _ _ _ _ h hF => ⟨h.2.1, hF⟩
end Jvm.Pilot.@@N@@
namespace Jvm.Pilot.@@N@@
open Jvm Jvm.ClassFile Sem Op Lib Jvm.Free Jvm.Stand Jvm.Pilot.@@N@@.Jvm.D
/-! MADE BY PROGRAM (witnessworld.py) out of the Statement's table words and the real class files: 14 classes; the members and pool entries that the words name. The judged class is class 1, her method 1. -/
namespace start1
open Jvm.ClassFile
def u (s : String) : CpInfo := .utf8 (stringToUtf16 s)
/-- a pool by its gaps: so many unusable entries, then the entry; so many at the end -/
def gap : Nat → List CpInfo → List CpInfo
  | 0, r => r
  | n + 1, r => .unusable :: gap n r
def poolList (es : List (Nat × CpInfo)) (last : Nat) : List CpInfo := es.foldr (fun e r => gap e.1 (e.2 :: r)) (gap last [])
def pool (es : List (Nat × CpInfo)) (last : Nat) : Array CpInfo := ⟨poolList es last⟩
def fileOf (pool : Array CpInfo) (this : Nat) (attrs : Array Attribute := #[]) (ms : Array MethodInfo := #[]) (fl : Nat := 33) (sup : Nat := 0) (ifs : Array Nat := #[]) (fds : Array FieldInfo := #[]) : ClassFile where
  minorVersion := 0
  majorVersion := 65
  constantPool := pool
  accessFlags := fl
  thisClass := this
  superClass := sup
  interfaces := ifs
  fields := fds
  methods := ms
  attributes := attrs
def plain (name : String) (sup : Option ClassId) : Class where
  name := name
  kind := .ordinary
  loader := none
  accessFlags := 33
  super := sup
  interfaces := #[]
  cf := none
  fields := #[]
  methods := #[]
  instanceTypes := #[]
  staticTypes := #[]
  resolved := #[]
  callSites := []
  init := .initialized
  statics := none
  mirror := none

def pool0 : Array CpInfo := pool [(5, u "<init>"), (0, u "()V"), (1, .class_ 10), (1, u "java/lang/Object")] 113

def k0c0 : Code := { maxStack := 0, maxLocals := 1, code := object_method_1_code, exceptionTable := #[], attributes := #[] }
def k0m0 : Method := { name := "<init>", desc := "()V", sig := { parameters := [], returnType := none }, accessFlags := 1, code := some k0c0 }
/-- java/lang/Object -/
def k0 : Class := { plain "java/lang/Object" none with
  accessFlags := 33
  interfaces := #[]
  cf := some (fileOf pool0 8 #[] #[{ accessFlags := 1, nameIndex := 5, descriptorIndex := 6, attributes := #[] }] 33 0 #[] #[])
  fields := #[]
  methods := #[k0m0]
  instanceTypes := #[]
  staticTypes := #[]
  resolved := Array.replicate 124 none
  statics := none }

def pool1 : Array CpInfo := pool [(2, .class_ 4), (1, u "java/lang/Object"), (0, u "<init>"), (0, u "()V"), (0, .class_ 8), (0, u "ludarium/rules/BrutusSight"), (0, .methodref 7 10), (0, .nameAndType 5 11), (0, u "(II[I[I[I)V"), (0, .class_ 13), (0, u "ludarium/rules/BrutusWalk"), (0, .methodref 12 15), (0, .nameAndType 5 16), (0, u "(Lludarium/rules/BrutusSight;)V"), (0, .integer 2147483647), (0, .fieldref 12 19), (0, .nameAndType 20 21), (0, u "held"), (0, u "[[I"), (0, .fieldref 12 23), (0, .nameAndType 24 25), (0, u "heldCount"), (0, u "[I"), (0, .methodref 12 27), (0, .nameAndType 28 29), (0, u "take"), (0, u "(III)V"), (0, .fieldref 12 31), (0, .nameAndType 32 25), (0, u "moved"), (0, .methodref 34 35), (0, .class_ 36), (0, .nameAndType 37 38), (0, u "ludarium/rules/BrutusWalkTakePinLaw"), (0, u "slot"), (0, u "([IIIII)Z"), (2, u "law"), (0, u "(IIIII)Z")] 4

def k1m0 : Method := { name := "<init>", desc := "()V", sig := { parameters := [], returnType := none }, accessFlags := 1, code := none }
def k1c1 : Code := { maxStack := 8, maxLocals := 15, code := code, exceptionTable := #[], attributes := #[] }
def k1m1 : Method := { name := "law", desc := "(IIIII)Z", sig := { parameters := [.int, .int, .int, .int, .int], returnType := some .boolean }, accessFlags := 9, code := some k1c1 }
def k1c2 : Code := { maxStack := 3, maxLocals := 6, code := method_3_code, exceptionTable := #[], attributes := #[] }
def k1m2 : Method := { name := "slot", desc := "([IIIII)Z", sig := { parameters := [(.array .int), .int, .int, .int, .int], returnType := some .boolean }, accessFlags := 10, code := some k1c2 }
/-- ludarium/rules/BrutusWalkTakePinLaw -/
def k1 : Class := { plain "ludarium/rules/BrutusWalkTakePinLaw" (some 0) with
  accessFlags := 49
  interfaces := #[]
  cf := some (fileOf pool1 34 #[] #[{ accessFlags := 1, nameIndex := 5, descriptorIndex := 6, attributes := #[] }, { accessFlags := 9, nameIndex := 41, descriptorIndex := 42, attributes := #[] }, { accessFlags := 10, nameIndex := 37, descriptorIndex := 38, attributes := #[] }] 49 2 #[] #[])
  fields := #[]
  methods := #[k1m0, k1m1, k1m2]
  instanceTypes := #[]
  staticTypes := #[]
  resolved := Array.replicate 47 none
  statics := none }

def pool2 : Array CpInfo := pool [(3, .methodref 4 5), (0, .class_ 6), (0, .nameAndType 7 8), (0, u "java/lang/Object"), (0, u "<init>"), (0, u "()V"), (0, .fieldref 10 11), (0, .class_ 12), (0, .nameAndType 13 14), (0, u "ludarium/rules/BrutusSight"), (0, u "seat"), (0, u "I"), (0, .fieldref 10 16), (0, .nameAndType 17 14), (0, u "copies"), (0, .fieldref 10 19), (0, .nameAndType 20 21), (0, u "dealt"), (0, u "[I"), (0, .fieldref 10 23), (0, .nameAndType 24 21), (0, u "hand"), (0, .fieldref 10 26), (0, .nameAndType 27 21), (0, u "moves"), (0, .fieldref 10 29), (0, .nameAndType 30 21), (0, u "runStart"), (0, .fieldref 10 32), (0, .nameAndType 33 21), (0, u "runEnd"), (0, .methodref 35 36), (0, .class_ 37), (0, .nameAndType 33 38), (0, u "ludarium/rules/BrutusDeck"), (0, u "([III)I"), (0, .methodref 40 41), (0, .class_ 42), (0, .nameAndType 43 44), (0, u "java/util/Arrays"), (0, u "fill"), (0, u "([IIII)V"), (7, u "(I)I"), (2, u "needs"), (0, u "[[I"), (6, u "arrivals"), (2, u "takes"), (5, u "reach"), (10, u "reachAtEnd"), (2, u "finalSizes"), (13, u "open"), (0, u "[Z"), (22, u "ANY_VALUE"), (2, u "(II[I[I[I)V"), (3, u "()I"), (0, u "places")] 8

def k2c0 : Code := { maxStack := 4, maxLocals := 8, code := prog_50_method_1_code, exceptionTable := #[], attributes := #[] }
def k2m0 : Method := { name := "<init>", desc := "(II[I[I[I)V", sig := { parameters := [.int, .int, (.array .int), (.array .int), (.array .int)], returnType := none }, accessFlags := 0, code := some k2c0 }
def k2c1 : Code := { maxStack := 1, maxLocals := 1, code := prog_50_method_2_code, exceptionTable := #[], attributes := #[] }
def k2m1 : Method := { name := "seat", desc := "()I", sig := { parameters := [], returnType := some .int }, accessFlags := 0, code := some k2c1 }
def k2c2 : Code := { maxStack := 1, maxLocals := 1, code := prog_50_method_4_code, exceptionTable := #[], attributes := #[] }
def k2m2 : Method := { name := "places", desc := "()I", sig := { parameters := [], returnType := some .int }, accessFlags := 0, code := some k2c2 }
def k2c3 : Code := { maxStack := 2, maxLocals := 2, code := prog_50_method_5_code, exceptionTable := #[], attributes := #[] }
def k2m3 : Method := { name := "dealt", desc := "(I)I", sig := { parameters := [.int], returnType := some .int }, accessFlags := 0, code := some k2c3 }
def k2c4 : Code := { maxStack := 1, maxLocals := 1, code := prog_50_method_7_code, exceptionTable := #[], attributes := #[] }
def k2m4 : Method := { name := "moves", desc := "()I", sig := { parameters := [], returnType := some .int }, accessFlags := 0, code := some k2c4 }
/-- ludarium/rules/BrutusSight -/
def k2 : Class := { plain "ludarium/rules/BrutusSight" (some 0) with
  accessFlags := 48
  interfaces := #[]
  cf := some (fileOf pool2 10 #[] #[{ accessFlags := 0, nameIndex := 7, descriptorIndex := 127, attributes := #[] }, { accessFlags := 0, nameIndex := 13, descriptorIndex := 131, attributes := #[] }, { accessFlags := 0, nameIndex := 132, descriptorIndex := 131, attributes := #[] }, { accessFlags := 0, nameIndex := 20, descriptorIndex := 52, attributes := #[] }, { accessFlags := 0, nameIndex := 27, descriptorIndex := 131, attributes := #[] }] 48 4 #[] #[{ accessFlags := 24, nameIndex := 124, descriptorIndex := 14, attributes := #[] }, { accessFlags := 18, nameIndex := 13, descriptorIndex := 14, attributes := #[] }, { accessFlags := 18, nameIndex := 17, descriptorIndex := 14, attributes := #[] }, { accessFlags := 18, nameIndex := 20, descriptorIndex := 21, attributes := #[] }, { accessFlags := 18, nameIndex := 24, descriptorIndex := 21, attributes := #[] }, { accessFlags := 18, nameIndex := 27, descriptorIndex := 21, attributes := #[] }, { accessFlags := 18, nameIndex := 30, descriptorIndex := 21, attributes := #[] }, { accessFlags := 18, nameIndex := 33, descriptorIndex := 21, attributes := #[] }, { accessFlags := 2, nameIndex := 55, descriptorIndex := 56, attributes := #[] }, { accessFlags := 2, nameIndex := 63, descriptorIndex := 56, attributes := #[] }, { accessFlags := 2, nameIndex := 66, descriptorIndex := 21, attributes := #[] }, { accessFlags := 2, nameIndex := 72, descriptorIndex := 56, attributes := #[] }, { accessFlags := 2, nameIndex := 83, descriptorIndex := 56, attributes := #[] }, { accessFlags := 2, nameIndex := 86, descriptorIndex := 21, attributes := #[] }, { accessFlags := 2, nameIndex := 100, descriptorIndex := 101, attributes := #[] }])
  fields := #[{ name := "ANY_VALUE", type := .int, accessFlags := 24, slot := 0, constantValue := 0 }, { name := "seat", type := .int, accessFlags := 18, slot := 0, constantValue := 0 }, { name := "copies", type := .int, accessFlags := 18, slot := 1, constantValue := 0 }, { name := "dealt", type := (.array .int), accessFlags := 18, slot := 2, constantValue := 0 }, { name := "hand", type := (.array .int), accessFlags := 18, slot := 3, constantValue := 0 }, { name := "moves", type := (.array .int), accessFlags := 18, slot := 4, constantValue := 0 }, { name := "runStart", type := (.array .int), accessFlags := 18, slot := 5, constantValue := 0 }, { name := "runEnd", type := (.array .int), accessFlags := 18, slot := 6, constantValue := 0 }, { name := "needs", type := (.array (.array .int)), accessFlags := 2, slot := 7, constantValue := 0 }, { name := "arrivals", type := (.array (.array .int)), accessFlags := 2, slot := 8, constantValue := 0 }, { name := "takes", type := (.array .int), accessFlags := 2, slot := 9, constantValue := 0 }, { name := "reach", type := (.array (.array .int)), accessFlags := 2, slot := 10, constantValue := 0 }, { name := "reachAtEnd", type := (.array (.array .int)), accessFlags := 2, slot := 11, constantValue := 0 }, { name := "finalSizes", type := (.array .int), accessFlags := 2, slot := 12, constantValue := 0 }, { name := "open", type := (.array .boolean), accessFlags := 2, slot := 13, constantValue := 0 }]
  methods := #[k2m0, k2m1, k2m2, k2m3, k2m4]
  instanceTypes := #[.int, .int, (.array .int), (.array .int), (.array .int), (.array .int), (.array .int), (.array (.array .int)), (.array (.array .int)), (.array .int), (.array (.array .int)), (.array (.array .int)), (.array .int), (.array .boolean)]
  staticTypes := #[.int]
  resolved := Array.replicate 141 none
  statics := none }

def pool3 : Array CpInfo := pool [(1, .class_ 2), (0, u "ludarium/rules/BrutusDeck"), (1, .class_ 6), (1, u "java/lang/Object"), (4, u "moves"), (0, u "[I"), (8, u "seats"), (0, u "Ljava/util/List;"), (6, u "players"), (0, u "I"), (2, u "copies"), (2, u "PILE_NAMES"), (0, u "[Ljava/lang/String;"), (3, u "[[I"), (2, u "counts"), (11, u "sizes"), (62, u "dealt"), (2, u "moveCount"), (71, u "runEnd"), (0, u "([III)I"), (53, u "SET_ASIDE"), (2, u "IN_ROUND"), (1, u "DISCARDED"), (1, u "FORUM"), (1, u "PLACE_BITS"), (1, u "PLACE_MASK"), (1, u "VALUE_SHIFT"), (1, u "VALUE_MASK"), (1, u "PRIVATELY"), (1, u "WITH_NEXT"), (1, u "SHOWN"), (1, u "MOVES_AT_FIRST")] 47

def k3c0 : Code := { maxStack := 3, maxLocals := 5, code := prog_18_method_31_code, exceptionTable := #[], attributes := #[] }
def k3m0 : Method := { name := "runEnd", desc := "([III)I", sig := { parameters := [(.array .int), .int, .int], returnType := some .int }, accessFlags := 8, code := some k3c0 }
/-- ludarium/rules/BrutusDeck -/
def k3 : Class := { plain "ludarium/rules/BrutusDeck" (some 0) with
  accessFlags := 48
  interfaces := #[]
  cf := some (fileOf pool3 1 #[] #[{ accessFlags := 8, nameIndex := 194, descriptorIndex := 195, attributes := #[] }] 48 4 #[] #[{ accessFlags := 24, nameIndex := 249, descriptorIndex := 30, attributes := #[] }, { accessFlags := 24, nameIndex := 252, descriptorIndex := 30, attributes := #[] }, { accessFlags := 24, nameIndex := 254, descriptorIndex := 30, attributes := #[] }, { accessFlags := 24, nameIndex := 256, descriptorIndex := 30, attributes := #[] }, { accessFlags := 26, nameIndex := 36, descriptorIndex := 37, attributes := #[] }, { accessFlags := 26, nameIndex := 258, descriptorIndex := 30, attributes := #[] }, { accessFlags := 26, nameIndex := 260, descriptorIndex := 30, attributes := #[] }, { accessFlags := 26, nameIndex := 262, descriptorIndex := 30, attributes := #[] }, { accessFlags := 26, nameIndex := 264, descriptorIndex := 30, attributes := #[] }, { accessFlags := 24, nameIndex := 266, descriptorIndex := 30, attributes := #[] }, { accessFlags := 24, nameIndex := 268, descriptorIndex := 30, attributes := #[] }, { accessFlags := 24, nameIndex := 270, descriptorIndex := 30, attributes := #[] }, { accessFlags := 26, nameIndex := 272, descriptorIndex := 30, attributes := #[] }, { accessFlags := 18, nameIndex := 21, descriptorIndex := 22, attributes := #[] }, { accessFlags := 18, nameIndex := 29, descriptorIndex := 30, attributes := #[] }, { accessFlags := 18, nameIndex := 33, descriptorIndex := 30, attributes := #[] }, { accessFlags := 18, nameIndex := 44, descriptorIndex := 41, attributes := #[] }, { accessFlags := 18, nameIndex := 56, descriptorIndex := 12, attributes := #[] }, { accessFlags := 2, nameIndex := 119, descriptorIndex := 41, attributes := #[] }, { accessFlags := 2, nameIndex := 11, descriptorIndex := 12, attributes := #[] }, { accessFlags := 2, nameIndex := 122, descriptorIndex := 30, attributes := #[] }])
  fields := #[{ name := "SET_ASIDE", type := .int, accessFlags := 24, slot := 0, constantValue := 0 }, { name := "IN_ROUND", type := .int, accessFlags := 24, slot := 1, constantValue := 0 }, { name := "DISCARDED", type := .int, accessFlags := 24, slot := 2, constantValue := 0 }, { name := "FORUM", type := .int, accessFlags := 24, slot := 3, constantValue := 0 }, { name := "PILE_NAMES", type := (.array (.object "java/lang/String")), accessFlags := 26, slot := 4, constantValue := 0 }, { name := "PLACE_BITS", type := .int, accessFlags := 26, slot := 5, constantValue := 0 }, { name := "PLACE_MASK", type := .int, accessFlags := 26, slot := 6, constantValue := 0 }, { name := "VALUE_SHIFT", type := .int, accessFlags := 26, slot := 7, constantValue := 0 }, { name := "VALUE_MASK", type := .int, accessFlags := 26, slot := 8, constantValue := 0 }, { name := "PRIVATELY", type := .int, accessFlags := 24, slot := 9, constantValue := 0 }, { name := "WITH_NEXT", type := .int, accessFlags := 24, slot := 10, constantValue := 0 }, { name := "SHOWN", type := .int, accessFlags := 24, slot := 11, constantValue := 0 }, { name := "MOVES_AT_FIRST", type := .int, accessFlags := 26, slot := 12, constantValue := 0 }, { name := "seats", type := (.object "java/util/List"), accessFlags := 18, slot := 0, constantValue := 0 }, { name := "players", type := .int, accessFlags := 18, slot := 1, constantValue := 0 }, { name := "copies", type := .int, accessFlags := 18, slot := 2, constantValue := 0 }, { name := "counts", type := (.array (.array .int)), accessFlags := 18, slot := 3, constantValue := 0 }, { name := "sizes", type := (.array .int), accessFlags := 18, slot := 4, constantValue := 0 }, { name := "dealt", type := (.array (.array .int)), accessFlags := 2, slot := 5, constantValue := 0 }, { name := "moves", type := (.array .int), accessFlags := 2, slot := 6, constantValue := 0 }, { name := "moveCount", type := .int, accessFlags := 2, slot := 7, constantValue := 0 }]
  methods := #[k3m0]
  instanceTypes := #[(.object "java/util/List"), .int, .int, (.array (.array .int)), (.array .int), (.array (.array .int)), (.array .int), .int]
  staticTypes := #[.int, .int, .int, .int, (.array (.object "java/lang/String")), .int, .int, .int, .int, .int, .int, .int, .int]
  resolved := Array.replicate 320 none
  statics := none }

def pool4 : Array CpInfo := pool [(2, .class_ 4), (1, u "java/lang/Object"), (0, u "<init>"), (0, u "()V"), (5, u "([IIII)V"), (0, .methodref 14 15), (0, .class_ 16), (0, .nameAndType 17 18), (0, u "java/util/Arrays"), (0, u "rangeCheck"), (0, u "(III)V"), (55, .class_ 76), (1, u "java/util/Arrays$NaturalOrder"), (36, .class_ 115), (1, u "java/util/Arrays$LegacyMergeSort"), (1, u "Z"), (257, .class_ 376), (0, u "java/util/Arrays$ArrayList"), (68, u "$assertionsDisabled"), (269, u "MIN_ARRAY_SORT_GRAN"), (0, u "I"), (2, u "INSERTIONSORT_THRESHOLD"), (120, u "fill"), (134, .class_ 976), (0, u "java/util/Arrays$ArrayItr")] 52

def k4m0 : Method := { name := "<init>", desc := "()V", sig := { parameters := [], returnType := none }, accessFlags := 2, code := none }
def k4c1 : Code := { maxStack := 4, maxLocals := 3, code := jdk_65_method_30_code, exceptionTable := #[], attributes := #[] }
def k4m1 : Method := { name := "rangeCheck", desc := "(III)V", sig := { parameters := [.int, .int, .int], returnType := none }, accessFlags := 8, code := some k4c1 }
def k4c2 : Code := { maxStack := 3, maxLocals := 5, code := jdk_65_method_104_code, exceptionTable := #[], attributes := #[] }
def k4m2 : Method := { name := "fill", desc := "([IIII)V", sig := { parameters := [(.array .int), .int, .int, .int], returnType := none }, accessFlags := 9, code := some k4c2 }
/-- java/util/Arrays -/
def k4 : Class := { plain "java/util/Arrays" (some 0) with
  accessFlags := 49
  interfaces := #[]
  cf := some (fileOf pool4 14 #[.nestMembers #[975, 375, 113, 74]] #[{ accessFlags := 2, nameIndex := 5, descriptorIndex := 6, attributes := #[] }, { accessFlags := 8, nameIndex := 17, descriptorIndex := 18, attributes := #[] }, { accessFlags := 9, nameIndex := 840, descriptorIndex := 12, attributes := #[] }] 49 2 #[] #[{ accessFlags := 26, nameIndex := 715, descriptorIndex := 716, attributes := #[] }, { accessFlags := 26, nameIndex := 719, descriptorIndex := 716, attributes := #[] }, { accessFlags := 4120, nameIndex := 445, descriptorIndex := 117, attributes := #[] }])
  fields := #[{ name := "MIN_ARRAY_SORT_GRAN", type := .int, accessFlags := 26, slot := 0, constantValue := 0 }, { name := "INSERTIONSORT_THRESHOLD", type := .int, accessFlags := 26, slot := 1, constantValue := 0 }, { name := "$assertionsDisabled", type := .boolean, accessFlags := 4120, slot := 2, constantValue := 0 }]
  methods := #[k4m0, k4m1, k4m2]
  instanceTypes := #[]
  staticTypes := #[.int, .int, .boolean]
  resolved := Array.replicate 1029 none
  statics := none }

def pool5 : Array CpInfo := pool [(1, .methodref 2 3), (0, .class_ 4), (0, .nameAndType 5 6), (0, u "java/lang/Object"), (0, u "<init>"), (0, u "()V"), (2, .fieldref 10 11), (0, .class_ 12), (0, .nameAndType 13 14), (0, u "ludarium/rules/BrutusWalk"), (0, u "unclaimed"), (0, u "[I"), (0, .class_ 16), (0, u "java/util/BitSet"), (0, .fieldref 10 18), (0, .nameAndType 19 20), (0, u "claimed"), (0, u "[Ljava/util/BitSet;"), (0, .fieldref 10 22), (0, .nameAndType 23 24), (0, u "sight"), (0, u "Lludarium/rules/BrutusSight;"), (0, .methodref 26 27), (0, .class_ 28), (0, .nameAndType 29 30), (0, u "ludarium/rules/BrutusSight"), (0, u "seat"), (0, u "()I"), (0, .fieldref 10 32), (0, .nameAndType 29 33), (0, u "I"), (0, .methodref 26 35), (0, .nameAndType 36 30), (0, u "moves"), (0, .fieldref 10 38), (0, .nameAndType 39 14), (0, u "moved"), (0, .fieldref 10 41), (0, .nameAndType 42 20), (0, u "carried"), (0, .methodref 26 44), (0, .nameAndType 45 30), (0, u "places"), (0, .methodref 26 47), (0, .nameAndType 48 49), (0, u "dealt"), (0, u "(I)I"), (0, .fieldref 10 51), (0, .nameAndType 52 14), (0, u "dealtTo"), (0, .fieldref 10 54), (0, .nameAndType 55 14), (0, u "values"), (0, .class_ 57), (0, u "[[I"), (0, .fieldref 10 59), (0, .nameAndType 60 57), (0, u "held"), (0, .fieldref 10 62), (0, .nameAndType 63 14), (0, u "heldCount"), (0, .fieldref 10 65), (0, .nameAndType 66 20), (0, u "shaped"), (0, .methodref 68 69), (0, .class_ 70), (0, .nameAndType 71 72), (0, u "java/util/Arrays"), (0, u "fill"), (0, u "([IIII)V"), (2, u "shaping"), (0, u "Z"), (51, u "(Lludarium/rules/BrutusSight;)V"), (13, u "take"), (0, u "(III)V")] 12

def k5c0 : Code := { maxStack := 5, maxLocals := 6, code := prog_53_method_1_code, exceptionTable := #[], attributes := #[] }
def k5m0 : Method := { name := "<init>", desc := "(Lludarium/rules/BrutusSight;)V", sig := { parameters := [(.object "ludarium/rules/BrutusSight")], returnType := none }, accessFlags := 0, code := some k5c0 }
def k5c1 : Code := { maxStack := 5, maxLocals := 4, code := prog_53_method_10_code, exceptionTable := #[], attributes := #[] }
def k5m1 : Method := { name := "take", desc := "(III)V", sig := { parameters := [.int, .int, .int], returnType := none }, accessFlags := 0, code := some k5c1 }
/-- ludarium/rules/BrutusWalk -/
def k5 : Class := { plain "ludarium/rules/BrutusWalk" (some 0) with
  accessFlags := 48
  interfaces := #[]
  cf := some (fileOf pool5 10 #[] #[{ accessFlags := 0, nameIndex := 5, descriptorIndex := 128, attributes := #[] }, { accessFlags := 0, nameIndex := 142, descriptorIndex := 143, attributes := #[] }] 48 2 #[] #[{ accessFlags := 18, nameIndex := 23, descriptorIndex := 24, attributes := #[] }, { accessFlags := 16, nameIndex := 29, descriptorIndex := 33, attributes := #[] }, { accessFlags := 16, nameIndex := 52, descriptorIndex := 14, attributes := #[] }, { accessFlags := 16, nameIndex := 55, descriptorIndex := 14, attributes := #[] }, { accessFlags := 16, nameIndex := 60, descriptorIndex := 57, attributes := #[] }, { accessFlags := 16, nameIndex := 63, descriptorIndex := 14, attributes := #[] }, { accessFlags := 16, nameIndex := 13, descriptorIndex := 14, attributes := #[] }, { accessFlags := 16, nameIndex := 39, descriptorIndex := 14, attributes := #[] }, { accessFlags := 2, nameIndex := 75, descriptorIndex := 76, attributes := #[] }, { accessFlags := 16, nameIndex := 66, descriptorIndex := 20, attributes := #[] }, { accessFlags := 16, nameIndex := 19, descriptorIndex := 20, attributes := #[] }, { accessFlags := 16, nameIndex := 42, descriptorIndex := 20, attributes := #[] }])
  fields := #[{ name := "sight", type := (.object "ludarium/rules/BrutusSight"), accessFlags := 18, slot := 0, constantValue := 0 }, { name := "seat", type := .int, accessFlags := 16, slot := 1, constantValue := 0 }, { name := "dealtTo", type := (.array .int), accessFlags := 16, slot := 2, constantValue := 0 }, { name := "values", type := (.array .int), accessFlags := 16, slot := 3, constantValue := 0 }, { name := "held", type := (.array (.array .int)), accessFlags := 16, slot := 4, constantValue := 0 }, { name := "heldCount", type := (.array .int), accessFlags := 16, slot := 5, constantValue := 0 }, { name := "unclaimed", type := (.array .int), accessFlags := 16, slot := 6, constantValue := 0 }, { name := "moved", type := (.array .int), accessFlags := 16, slot := 7, constantValue := 0 }, { name := "shaping", type := .boolean, accessFlags := 2, slot := 8, constantValue := 0 }, { name := "shaped", type := (.array (.object "java/util/BitSet")), accessFlags := 16, slot := 9, constantValue := 0 }, { name := "claimed", type := (.array (.object "java/util/BitSet")), accessFlags := 16, slot := 10, constantValue := 0 }, { name := "carried", type := (.array (.object "java/util/BitSet")), accessFlags := 16, slot := 11, constantValue := 0 }]
  methods := #[k5m0, k5m1]
  instanceTypes := #[(.object "ludarium/rules/BrutusSight"), .int, (.array .int), (.array .int), (.array (.array .int)), (.array .int), (.array .int), (.array .int), .boolean, (.array (.object "java/util/BitSet")), (.array (.object "java/util/BitSet")), (.array (.object "java/util/BitSet"))]
  staticTypes := #[]
  resolved := Array.replicate 156 none
  statics := none }

def pool6 : Array CpInfo := pool [(1, .class_ 2), (0, u "java/lang/Cloneable"), (0, .class_ 4), (0, u "java/lang/Object")] 2

/-- java/lang/Cloneable -/
def k6 : Class := { plain "java/lang/Cloneable" (some 0) with
  accessFlags := 1537
  interfaces := #[]
  cf := some (fileOf pool6 1 #[] #[] 1537 3 #[] #[])
  fields := #[]
  methods := #[]
  instanceTypes := #[]
  staticTypes := #[]
  resolved := Array.replicate 7 none
  statics := none }

def pool7 : Array CpInfo := pool [(1, .class_ 2), (0, u "java/io/Serializable"), (0, .class_ 4), (0, u "java/lang/Object")] 2

/-- java/io/Serializable -/
def k7 : Class := { plain "java/io/Serializable" (some 0) with
  accessFlags := 1537
  interfaces := #[]
  cf := some (fileOf pool7 1 #[] #[] 1537 3 #[] #[])
  fields := #[]
  methods := #[]
  instanceTypes := #[]
  staticTypes := #[]
  resolved := Array.replicate 7 none
  statics := none }

def pool8 : Array CpInfo := pool [(1, .class_ 2), (0, u "java/util/BitSet"), (2, u "$assertionsDisabled"), (0, u "Z"), (2, u "wordsInUse"), (0, u "I"), (2, u "words"), (0, u "[J"), (4, u "<init>"), (0, u "()V"), (1, .class_ 23), (0, u "java/lang/Object"), (2, u "sizeIsSticky"), (242, .class_ 270), (0, u "java/util/BitSet$1BitSetSpliterator"), (22, u "serialPersistentFields"), (0, u "[Ljava/io/ObjectStreamField;"), (0, .class_ 296), (0, u "java/lang/Cloneable"), (0, .class_ 298), (0, u "java/io/Serializable"), (0, u "ADDRESS_BITS_PER_WORD"), (2, u "BITS_PER_WORD"), (1, u "BIT_INDEX_MASK"), (1, u "WORD_MASK"), (0, u "J"), (0, u "serialVersionUID")] 108

def k8m0 : Method := { name := "<init>", desc := "()V", sig := { parameters := [], returnType := none }, accessFlags := 1, code := none }
/-- java/util/BitSet -/
def k8 : Class := { plain "java/util/BitSet" (some 0) with
  accessFlags := 33
  interfaces := #[6, 7]
  cf := some (fileOf pool8 1 #[.nestMembers #[269]] #[{ accessFlags := 1, nameIndex := 19, descriptorIndex := 20, attributes := #[] }] 33 22 #[295, 297] #[{ accessFlags := 26, nameIndex := 299, descriptorIndex := 10, attributes := #[] }, { accessFlags := 26, nameIndex := 302, descriptorIndex := 10, attributes := #[] }, { accessFlags := 26, nameIndex := 304, descriptorIndex := 10, attributes := #[] }, { accessFlags := 26, nameIndex := 306, descriptorIndex := 307, attributes := #[] }, { accessFlags := 26, nameIndex := 293, descriptorIndex := 294, attributes := #[] }, { accessFlags := 2, nameIndex := 13, descriptorIndex := 14, attributes := #[] }, { accessFlags := 130, nameIndex := 9, descriptorIndex := 10, attributes := #[] }, { accessFlags := 130, nameIndex := 26, descriptorIndex := 6, attributes := #[] }, { accessFlags := 26, nameIndex := 308, descriptorIndex := 307, attributes := #[] }, { accessFlags := 4120, nameIndex := 5, descriptorIndex := 6, attributes := #[] }])
  fields := #[{ name := "ADDRESS_BITS_PER_WORD", type := .int, accessFlags := 26, slot := 0, constantValue := 0 }, { name := "BITS_PER_WORD", type := .int, accessFlags := 26, slot := 1, constantValue := 0 }, { name := "BIT_INDEX_MASK", type := .int, accessFlags := 26, slot := 2, constantValue := 0 }, { name := "WORD_MASK", type := .long, accessFlags := 26, slot := 3, constantValue := 0 }, { name := "serialPersistentFields", type := (.array (.object "java/io/ObjectStreamField")), accessFlags := 26, slot := 4, constantValue := 0 }, { name := "words", type := (.array .long), accessFlags := 2, slot := 0, constantValue := 0 }, { name := "wordsInUse", type := .int, accessFlags := 130, slot := 1, constantValue := 0 }, { name := "sizeIsSticky", type := .boolean, accessFlags := 130, slot := 2, constantValue := 0 }, { name := "serialVersionUID", type := .long, accessFlags := 26, slot := 5, constantValue := 0 }, { name := "$assertionsDisabled", type := .boolean, accessFlags := 4120, slot := 6, constantValue := 0 }]
  methods := #[k8m0]
  instanceTypes := #[(.array .long), .int, .boolean]
  staticTypes := #[.int, .int, .int, .long, (.array (.object "java/io/ObjectStreamField")), .long, .boolean]
  resolved := Array.replicate 417 none
  statics := none }

/-- the primitive byte -/
def k9 : Class := { plain "byte" none with kind := .primitive 'B', accessFlags := 0x411 }
/-- [B -/
def k10 : Class := { plain "[B" (some 0) with kind := .array 9 .byte, interfaces := #[6, 7], accessFlags := 1041 }

/-- the primitive int -/
def k11 : Class := { plain "int" none with kind := .primitive 'I', accessFlags := 0x411 }
/-- [I -/
def k12 : Class := { plain "[I" (some 0) with kind := .array 11 .int, interfaces := #[6, 7], accessFlags := 1041 }

/-- [Ljava/util/BitSet; -/
def k13 : Class := { plain "[Ljava/util/BitSet;" (some 0) with kind := .array 8 (.object "java/util/BitSet"), interfaces := #[6, 7], accessFlags := 1041 }

def heap : Heap := #[]
def k14 : Class := { plain "[[I" (some 0) with kind := .array 12 (.array .int), interfaces := #[6, 7], accessFlags := 1041 }
def classes : Array Class := #[k0, k1, k2, k3, k4, k5, k6, k7, k8, k9, k10, k11, k12, k13, k14]
def interned : List (Array UInt16 × Addr) := []
def slotsUsed : Nat := 0
def theMethod : MethodId := ⟨1, 1⟩
def args0 : Array Value := #[.int 1, .int 2, .int 3, .int 4, .int 5]
def aboutOver (below : List Frame) : State where
  vm := { classes := classes, interned := interned.toArray }
  heap := heap
  slotsUsed := slotsUsed
  threads := #[{ frames := .invoking theMethod args0 :: below }]
def below0 : List Frame := [.native { method := ⟨0, 0⟩, args := #[] }]
def about1 : State := aboutOver below0
def p0 : Program := .bare "" "" ""
def e0 : Env := launch0.env 0 0 0
theorem w_frames : about1.frames = Frame.invoking theMethod args0 :: below0 := rfl
set_option maxRecDepth 65536 in
theorem w_args : argsFit about1.vm theMethod args0 = true := by decide +kernel
set_option maxRecDepth 65536 in
theorem w_heap : heapFits about1 = true := by decide +kernel
set_option maxRecDepth 65536 in
theorem w_runnable : about1.curStatus? = some .runnable := by decide +kernel
set_option maxRecDepth 65536 in
theorem w_alone : about1.alone = true := by decide +kernel
set_option maxRecDepth 65536 in
theorem w_named : about1.methodNamed? x = some theMethod := by decide +kernel
set_option maxRecDepth 65536 in
theorem w_hears : about1.hears theMethod below0 = true := by decide +kernel
set_option maxRecDepth 65536 in
theorem w_ripe : about1.ripe theMethod args0 below0 = true := by decide +kernel
theorem w_running : about1.status = .running := rfl
set_option maxRecDepth 65536 in
theorem w_room : about1.hasRoom e0.platform room_1 = true :=
  launch0.hasRoom_least _ room_1 (by decide +kernel) (by decide +kernel) (by decide +kernel) (by decide +kernel) (by decide +kernel) (by decide +kernel)
theorem allAtoms_all (ts : List Jvm.Cond) (a : Array Jvm.Value) (st : Jvm.State) : (allAtoms ts).before a st = ts.all (fun c => c.before a st) := by
  induction ts with
  | nil => rfl
  | cons c t ih =>
    show (Jvm.Cond.and c (allAtoms t)).before a st = _
    rw [Jvm.Cond.before_and, ih, List.all_cons]
def words1 : List Jvm.Cond := Jvm.Cond.code x code maxLocals ret :: tables_1
/-- a 'code' word, met by the world's own term for the bytes: nothing is compared byte by byte -/
theorem code_word {y : MethodName} {bytes : ByteArray} {mx : Nat} {rt : Option FieldType} {a : Array Value} {s : State} {m : MethodId} {meth : Method} {c : Code} (h1 : s.methodNamed? y = some m) (h2 : s.vm.method? m = some meth) (h3 : meth.code = some c) (h4 : c.code = bytes)
    (h5 : (c.maxLocals == mx && c.exceptionTable.isEmpty && decide (c.maxStack ≤ mostOperands) && decide (meth.sig.returnType = rt) && !meth.locks && decide (parseMethodDescriptor y.desc = some meth.sig)) = true) : (Jvm.Cond.code y bytes mx rt).before a s = true := by
  simp only [Bool.and_eq_true, beq_iff_eq, Bool.not_eq_true', decide_eq_true_eq] at h5
  obtain ⟨⟨⟨⟨⟨g1, g2⟩, g3⟩, g4⟩, g5⟩, g6⟩ := h5
  simp [Cond.before, Cond.holds, Cond.value, h1, h2, h3, h4, g1, g2, g3, g4, g5, g6]
def isCode : Jvm.Cond → Bool
  | .code _ _ _ _ => true
  | _ => false
theorem all_split {L : List Jvm.Cond} {P : Jvm.Cond → Bool} (h1 : L.all (fun c => isCode c || P c) = true) (h2 : ∀ c ∈ L.filter isCode, P c = true) : L.all P = true := by
  refine List.all_eq_true.mpr fun c hc => ?_
  have h := List.all_eq_true.mp h1 c hc
  rcases Bool.eq_false_or_eq_true (isCode c) with hi | hi
  · exact h2 c (List.mem_filter.mpr ⟨hc, hi⟩)
  · simpa [hi] using h
set_option maxRecDepth 65536 in
theorem w_c0 : (Jvm.Cond.code x code maxLocals ret).before args0 about1 = true := code_word (m := ⟨1, 1⟩) (meth := k1m1) (c := k1c1) (by decide +kernel) rfl rfl rfl (by decide +kernel)
set_option maxRecDepth 65536 in
theorem w_c1 : (Jvm.Cond.code ({ cls := "ludarium/rules/BrutusSight", name := "<init>", desc := "(II[I[I[I)V" } : Jvm.MethodName) prog_50_method_1_code (8 : Nat) (Option.none : Option Jvm.ClassFile.FieldType)).before args0 about1 = true := code_word (m := ⟨2, 0⟩) (meth := k2m0) (c := k2c0) (by decide +kernel) rfl rfl rfl (by decide +kernel)
set_option maxRecDepth 65536 in
theorem w_c2 : (Jvm.Cond.code ({ cls := "java/lang/Object", name := "<init>", desc := "()V" } : Jvm.MethodName) object_method_1_code (1 : Nat) (Option.none : Option Jvm.ClassFile.FieldType)).before args0 about1 = true := code_word (m := ⟨0, 0⟩) (meth := k0m0) (c := k0c0) (by decide +kernel) rfl rfl rfl (by decide +kernel)
set_option maxRecDepth 65536 in
theorem w_c3 : (Jvm.Cond.code ({ cls := "ludarium/rules/BrutusDeck", name := "runEnd", desc := "([III)I" } : Jvm.MethodName) prog_18_method_31_code (5 : Nat) (Option.some Jvm.ClassFile.FieldType.int)).before args0 about1 = true := code_word (m := ⟨3, 0⟩) (meth := k3m0) (c := k3c0) (by decide +kernel) rfl rfl rfl (by decide +kernel)
set_option maxRecDepth 65536 in
theorem w_c4 : (Jvm.Cond.code ({ cls := "java/util/Arrays", name := "fill", desc := "([IIII)V" } : Jvm.MethodName) jdk_65_method_104_code (5 : Nat) (Option.none : Option Jvm.ClassFile.FieldType)).before args0 about1 = true := code_word (m := ⟨4, 2⟩) (meth := k4m2) (c := k4c2) (by decide +kernel) rfl rfl rfl (by decide +kernel)
set_option maxRecDepth 65536 in
theorem w_c5 : (Jvm.Cond.code ({ cls := "java/util/Arrays", name := "rangeCheck", desc := "(III)V" } : Jvm.MethodName) jdk_65_method_30_code (3 : Nat) (Option.none : Option Jvm.ClassFile.FieldType)).before args0 about1 = true := code_word (m := ⟨4, 1⟩) (meth := k4m1) (c := k4c1) (by decide +kernel) rfl rfl rfl (by decide +kernel)
set_option maxRecDepth 65536 in
theorem w_c6 : (Jvm.Cond.code ({ cls := "ludarium/rules/BrutusWalk", name := "<init>", desc := "(Lludarium/rules/BrutusSight;)V" } : Jvm.MethodName) prog_53_method_1_code (6 : Nat) (Option.none : Option Jvm.ClassFile.FieldType)).before args0 about1 = true := code_word (m := ⟨5, 0⟩) (meth := k5m0) (c := k5c0) (by decide +kernel) rfl rfl rfl (by decide +kernel)
set_option maxRecDepth 65536 in
theorem w_c7 : (Jvm.Cond.code ({ cls := "ludarium/rules/BrutusSight", name := "seat", desc := "()I" } : Jvm.MethodName) prog_50_method_2_code (1 : Nat) (Option.some Jvm.ClassFile.FieldType.int)).before args0 about1 = true := code_word (m := ⟨2, 1⟩) (meth := k2m1) (c := k2c1) (by decide +kernel) rfl rfl rfl (by decide +kernel)
set_option maxRecDepth 65536 in
theorem w_c8 : (Jvm.Cond.code ({ cls := "ludarium/rules/BrutusSight", name := "moves", desc := "()I" } : Jvm.MethodName) prog_50_method_7_code (1 : Nat) (Option.some Jvm.ClassFile.FieldType.int)).before args0 about1 = true := code_word (m := ⟨2, 4⟩) (meth := k2m4) (c := k2c4) (by decide +kernel) rfl rfl rfl (by decide +kernel)
set_option maxRecDepth 65536 in
theorem w_c9 : (Jvm.Cond.code ({ cls := "ludarium/rules/BrutusSight", name := "places", desc := "()I" } : Jvm.MethodName) prog_50_method_4_code (1 : Nat) (Option.some Jvm.ClassFile.FieldType.int)).before args0 about1 = true := code_word (m := ⟨2, 2⟩) (meth := k2m2) (c := k2c2) (by decide +kernel) rfl rfl rfl (by decide +kernel)
set_option maxRecDepth 65536 in
theorem w_c10 : (Jvm.Cond.code ({ cls := "ludarium/rules/BrutusSight", name := "dealt", desc := "(I)I" } : Jvm.MethodName) prog_50_method_5_code (2 : Nat) (Option.some Jvm.ClassFile.FieldType.int)).before args0 about1 = true := code_word (m := ⟨2, 3⟩) (meth := k2m3) (c := k2c3) (by decide +kernel) rfl rfl rfl (by decide +kernel)
set_option maxRecDepth 65536 in
theorem w_c11 : (Jvm.Cond.code ({ cls := "ludarium/rules/BrutusWalk", name := "take", desc := "(III)V" } : Jvm.MethodName) prog_53_method_10_code (4 : Nat) (Option.none : Option Jvm.ClassFile.FieldType)).before args0 about1 = true := code_word (m := ⟨5, 1⟩) (meth := k5m1) (c := k5c1) (by decide +kernel) rfl rfl rfl (by decide +kernel)
set_option maxRecDepth 65536 in
theorem w_c12 : (Jvm.Cond.code ({ cls := "ludarium/rules/BrutusWalkTakePinLaw", name := "slot", desc := "([IIIII)Z" } : Jvm.MethodName) method_3_code (6 : Nat) (Option.some Jvm.ClassFile.FieldType.boolean)).before args0 about1 = true := code_word (m := ⟨1, 2⟩) (meth := k1m2) (c := k1c2) (by decide +kernel) rfl rfl rfl (by decide +kernel)
def codes1 : List Jvm.Cond := [Jvm.Cond.code x code maxLocals ret, Jvm.Cond.code ({ cls := "ludarium/rules/BrutusSight", name := "<init>", desc := "(II[I[I[I)V" } : Jvm.MethodName) prog_50_method_1_code (8 : Nat) (Option.none : Option Jvm.ClassFile.FieldType), Jvm.Cond.code ({ cls := "java/lang/Object", name := "<init>", desc := "()V" } : Jvm.MethodName) object_method_1_code (1 : Nat) (Option.none : Option Jvm.ClassFile.FieldType), Jvm.Cond.code ({ cls := "ludarium/rules/BrutusDeck", name := "runEnd", desc := "([III)I" } : Jvm.MethodName) prog_18_method_31_code (5 : Nat) (Option.some Jvm.ClassFile.FieldType.int), Jvm.Cond.code ({ cls := "java/util/Arrays", name := "fill", desc := "([IIII)V" } : Jvm.MethodName) jdk_65_method_104_code (5 : Nat) (Option.none : Option Jvm.ClassFile.FieldType), Jvm.Cond.code ({ cls := "java/util/Arrays", name := "rangeCheck", desc := "(III)V" } : Jvm.MethodName) jdk_65_method_30_code (3 : Nat) (Option.none : Option Jvm.ClassFile.FieldType), Jvm.Cond.code ({ cls := "ludarium/rules/BrutusWalk", name := "<init>", desc := "(Lludarium/rules/BrutusSight;)V" } : Jvm.MethodName) prog_53_method_1_code (6 : Nat) (Option.none : Option Jvm.ClassFile.FieldType), Jvm.Cond.code ({ cls := "ludarium/rules/BrutusSight", name := "seat", desc := "()I" } : Jvm.MethodName) prog_50_method_2_code (1 : Nat) (Option.some Jvm.ClassFile.FieldType.int), Jvm.Cond.code ({ cls := "ludarium/rules/BrutusSight", name := "moves", desc := "()I" } : Jvm.MethodName) prog_50_method_7_code (1 : Nat) (Option.some Jvm.ClassFile.FieldType.int), Jvm.Cond.code ({ cls := "ludarium/rules/BrutusSight", name := "places", desc := "()I" } : Jvm.MethodName) prog_50_method_4_code (1 : Nat) (Option.some Jvm.ClassFile.FieldType.int), Jvm.Cond.code ({ cls := "ludarium/rules/BrutusSight", name := "dealt", desc := "(I)I" } : Jvm.MethodName) prog_50_method_5_code (2 : Nat) (Option.some Jvm.ClassFile.FieldType.int), Jvm.Cond.code ({ cls := "ludarium/rules/BrutusWalk", name := "take", desc := "(III)V" } : Jvm.MethodName) prog_53_method_10_code (4 : Nat) (Option.none : Option Jvm.ClassFile.FieldType), Jvm.Cond.code ({ cls := "ludarium/rules/BrutusWalkTakePinLaw", name := "slot", desc := "([IIIII)Z" } : Jvm.MethodName) method_3_code (6 : Nat) (Option.some Jvm.ClassFile.FieldType.boolean)]
set_option maxRecDepth 65536 in
theorem codes_eq : words1.filter isCode = codes1 := rfl
theorem w_codes : ∀ c ∈ words1.filter isCode, c.before args0 about1 = true := by
  rw [codes_eq]
  intro c hc
  simp only [codes1, List.mem_cons, List.not_mem_nil, or_false] at hc
  rcases hc with rfl | rfl | rfl | rfl | rfl | rfl | rfl | rfl | rfl | rfl | rfl | rfl | rfl
  · exact w_c0
  · exact w_c1
  · exact w_c2
  · exact w_c3
  · exact w_c4
  · exact w_c5
  · exact w_c6
  · exact w_c7
  · exact w_c8
  · exact w_c9
  · exact w_c10
  · exact w_c11
  · exact w_c12
set_option maxRecDepth 65536 in
theorem w_t1 : (words1.take 24).all (fun c => isCode c || c.before args0 about1) = true := by decide +kernel
set_option maxRecDepth 65536 in
theorem w_t2 : ((words1.drop 24).take 24).all (fun c => isCode c || c.before args0 about1) = true := by decide +kernel
set_option maxRecDepth 65536 in
theorem w_t3 : (((words1.drop 24).drop 24).take 24).all (fun c => isCode c || c.before args0 about1) = true := by decide +kernel
set_option maxRecDepth 65536 in
theorem w_t4 : ((((words1.drop 24).drop 24).drop 24).take 24).all (fun c => isCode c || c.before args0 about1) = true := by decide +kernel
set_option maxRecDepth 65536 in
theorem w_t5 : ((((words1.drop 24).drop 24).drop 24).drop 24).all (fun c => isCode c || c.before args0 about1) = true := by decide +kernel
theorem w_tables : (allAtoms (Jvm.Cond.code x code maxLocals ret :: tables_1)).before args0 about1 = true := by
  rw [allAtoms_all]
  show words1.all (fun c => c.before args0 about1) = true
  refine all_split ?_ w_codes
  rw [← List.take_append_drop 24 words1, List.all_append, w_t1, ← List.take_append_drop 24 (words1.drop 24), List.all_append, w_t2, ← List.take_append_drop 24 ((words1.drop 24).drop 24), List.all_append, w_t3, ← List.take_append_drop 24 (((words1.drop 24).drop 24).drop 24), List.all_append, w_t4, w_t5]
  rfl
set_option maxRecDepth 65536 in
theorem w_case : (Jvm.Cond.and given_1 narrow_1).before args0 about1 = true := by decide +kernel
theorem w_applies : (headSpec (Jvm.Cond.code x code maxLocals ret :: tables_1) room_1).applies x e0.platform about1 = true :=
  (Spec.applies_iff w_frames).mpr ⟨w_running, w_runnable, w_alone, w_named, w_hears, w_ripe, w_room, w_tables⟩
theorem atStart : AtStart classFile x code maxLocals ret World_1 tables_1 room_1 Calls_1 rest_1 Pre_1 launch0 p0 e0 about1 theMethod args0 below0 :=
  ⟨lists_1, trivial, launch0.admits_env _ _ _, launch0.least_env, fairChoices_fair.cas, fairChoices_fair.clock, w_frames, w_args, w_heap, w_applies, trivial, trivial, w_case⟩
end start1
theorem witness_1 : WitnessClaimed_1 := ⟨start1.p0, start1.e0, start1.about1, start1.theMethod, start1.args0, start1.below0, start1.atStart⟩
end Jvm.Pilot.@@N@@
