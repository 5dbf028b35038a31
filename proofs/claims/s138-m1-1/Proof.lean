import JvmDerived
import JvmDerived.Pilot.@@N@@Statement
import JvmDerived.Pilot.@@N@@Code
set_option linter.unusedVariables false
set_option linter.unusedSimpArgs false
@@BLOCK:NumsL.lean.txt@@
namespace Jvm.Pilot.@@N@@
open Jvm Jvm.ClassFile Sem Op Lib Jvm.Free Jvm.Stand Jvm.LawKit Jvm.RoadKit Bundle Jvm.Pilot.@@N@@.Jvm.D
section Own
variable {p : Program} {l : Launch} {e : Env} {R : Room} {s : State} {m : MethodId} {args : Array Value} {below : List Frame} {meth : Method} {c : Code} {T T' : State} {locs : List Loc} {cells slots : Nat} {Z : State} {a0 : Array Value} {h : Heap} {P : State → Prop} {pc q : Nat} {Ls : Array Slot} {S : List Value} {g g' : JFrame}
/-- from this state on the run comes to one of which P holds -/
def Go (p : Program) (e : Env) (below : List Frame) (P : State → Prop) (T : State) (g : JFrame) : Prop := ∃ n, Steps p.tables e below (T.setTop g) n ∧ P n
theorem Go.by_ (k : ∀ t, Steps p.tables e below (T'.setTop g') t → Steps p.tables e below (T.setTop g) t) (h : Go p e below P T' g') : Go p e below P T g := by
  obtain ⟨n, a, b⟩ := h; exact ⟨n, k n a, b⟩
theorem Go.tr (k : Steps p.tables e below (T.setTop g) (T'.setTop g')) (h : Go p e below P T' g') : Go p e below P T g := by
  obtain ⟨n, a, b⟩ := h; exact ⟨n, k.trans a, b⟩
theorem g_join (h : Go p e below P T g) (k : Go p e below P T g → Go p e below P T' g') : Go p e below P T' g' := k h
/-- what the whole body knows of its method -/
def Kt (p : Program) (Z s : State) (m : MethodId) (meth : Method) (c : Code) (y : MethodName) (bytes : ByteArray) (maxL : Nat) (ret : Option FieldType) : Prop :=
  p.tables.exec = Jvm.exec ∧ Z.Warmed39 s.vm ∧ c.code = bytes ∧ c.maxLocals = maxL ∧ s.vm.findClass y.cls = some m.cls ∧ meth.sig.returnType = ret ∧ meth.locks = false ∧ meth.name = y.name ∧ s.methodNamed? y = some m
variable {y : MethodName} {bytes : ByteArray} {maxL : Nat} {ret : Option FieldType}
theorem Kt.x (K : Kt p Z s m meth c y bytes maxL ret) : p.tables.exec = Jvm.exec := K.1
theorem Kt.z (K : Kt p Z s m meth c y bytes maxL ret) : Z.Warmed39 s.vm := K.2.1
theorem Kt.ml (K : Kt p Z s m meth c y bytes maxL ret) : c.maxLocals = maxL := K.2.2.2.1
theorem Kt.own (K : Kt p Z s m meth c y bytes maxL ret) : s.vm.findClass y.cls = some m.cls := K.2.2.2.2.1
theorem Kt.rt (K : Kt p Z s m meth c y bytes maxL ret) : meth.sig.returnType = ret := K.2.2.2.2.2.1
theorem Kt.lk (K : Kt p Z s m meth c y bytes maxL ret) : meth.locks = false := K.2.2.2.2.2.2.1
theorem Kt.nm (K : Kt p Z s m meth c y bytes maxL ret) : meth.name = y.name := K.2.2.2.2.2.2.2.1
theorem Kt.named (K : Kt p Z s m meth c y bytes maxL ret) : s.methodNamed? y = some m := K.2.2.2.2.2.2.2.2
theorem Kt.d (K : Kt p Z s m meth c y bytes maxL ret) {r : Except DecodeError (Instr × Nat)} (h : decode bytes pc = r) : decode c.code pc = r := by rw [K.2.2.1]; exact h
/-- the end of a body -/
def Done (s : State) (below : List Frame) (Q : Option Value → Heap → List Loc → Prop) (kc ks : Nat) (n : State) : Prop :=
  ∃ o, n.status = .running ∧ Ended n below o ∧ ∃ v L, o = .returned v ∧ Q v n.heap L ∧ FrameEnd s o n L kc ks
/-- a body's contract -/
def Mt (l : Launch) (Z : State) (y : MethodName) (bytes : ByteArray) (maxL : Nat) (ret : Option FieldType) (ws : List Jvm.Cond) (rm : Room) (as' : Array Value) (h0 : Heap) (Q : Option Value → Heap → List Loc → Prop) : Prop :=
  MetFree l y (head1 (Jvm.Cond.code y bytes maxL ret :: ws) rm) (fun a U => a = as' ∧ Z.Warmed39 U.vm ∧ U.heap = h0) (fun _ _ _ _ _ => True) (fun _ U o U' => ∃ v L, o = .returned v ∧ Q v U'.heap L ∧ FrameEnd U o U' L rm.cells rm.slots)
theorem g_body {ws : List Jvm.Cond} {rm : Room} {as' : Array Value} {h0 : Heap} {Q : Option Value → Heap → List Loc → Prop} (hpl : plainFor y = true)
    (H : ∀ (p : Program) (e : Env) (s : State) (m : MethodId) (below : List Frame) (meth : Method) (c : Code) (T : State), Kt p Z s m meth c y bytes maxL ret → Stand p l e rm s m as' below meth c T [] 0 0 → T.heap = h0 → Go p e below (Done s below Q rm.cells rm.slots) T (entryFrame m as' maxL)) :
    Mt l Z y bytes maxL ret ws rm as' h0 Q := by
  refine MetFree.of_bodySF hpl hisR ?_
  intro p e s m args below meth c s₁ Bd hml0 hP hK
  obtain ⟨rfl, hZ, hh⟩ := hP
  obtain ⟨n, a, o, b1, b2, b3⟩ := H p e s m below meth c s₁ ⟨Bd.exec, hZ, Bd.bytes, hml0, findClass_of_methodNamed Bd.named, Bd.returns, BodyLoose.notSynchronized Bd, (name_of_methodNamed Bd.named Bd.method).1, Bd.named⟩ (Stand.of_body Bd) (by rw [← hh, Bd.state]; rfl)
  exact ⟨n, o, a, b1, b2, b3⟩
variable {Q : Option Value → Heap → List Loc → Prop} {kc ks : Nat}
theorem g_entry (q : g = g') (h : Go p e below P T g') : Go p e below P T g := q ▸ h
/-! returns -/
theorem g_ret (X : Stand p l e R s m args below meth c T locs cells slots) (K : Kt p Z s m meth c y bytes maxL none) (hd : decode bytes pc = .ok (.return_, 1)) (hc : cells ≤ kc) (hs : slots ≤ ks) (hQ : Q none T.heap locs) : Go p e below (Done s below Q kc ks) T (mkF m pc Ls []) := by
  obtain ⟨fs, hr, hrun, hended, hW, hsame⟩ := X.leave (v := none) (fun _ => rfl) K.lk
  exact ⟨_, X.returnOut K.x K.rt (K.d hd) hr, _, hrun, hended, _, _, rfl, hQ, ⟨_, rfl⟩, hW, hsame.mono hc hs⟩
theorem g_iret (X : Stand p l e R s m args below meth c T locs cells slots) (K : Kt p Z s m meth c y bytes maxL (some .int)) {z : Int32} (hd : decode bytes pc = .ok (.ireturn, 1)) (hc : cells ≤ kc) (hs : slots ≤ ks) (hQ : Q (some (.int z)) T.heap locs) : Go p e below (Done s below Q kc ks) T (mkF m pc Ls (.int z :: S)) := by
  obtain ⟨fs, hr, hrun, hended, hW, hsame⟩ := X.leave (v := some (.int z)) (fun h => by rw [K.rt] at h; cases h) K.lk
  exact ⟨_, retOut X K.x K.rt rfl (Or.inl ⟨rfl, Or.inl rfl, z, rfl⟩) (K.d hd) hr, _, hrun, hended, _, _, rfl, hQ, ⟨_, rfl⟩, hW, hsame.mono hc hs⟩
theorem g_nret {t : FieldType} (X : Stand p l e R s m args below meth c T locs cells slots) (K : Kt p Z s m meth c y bytes maxL (some t)) (ht : t = .boolean ∨ t = .byte ∨ t = .char ∨ t = .short) {z z' : Int32} (hn : nar t z = z') (hd : decode bytes pc = .ok (.ireturn, 1)) (hc : cells ≤ kc) (hs : slots ≤ ks) (hQ : Q (some (.int z')) T.heap locs) : Go p e below (Done s below Q kc ks) T (mkF m pc Ls (.int z :: S)) := by
  subst hn
  obtain ⟨fs, hr, hrun, hended, hW, hsame⟩ := X.leave (v := some (.int (nar t z))) (fun h => by rw [K.rt] at h; cases h) K.lk
  exact ⟨_, retN X K.x K.rt ht (K.d hd) hr, _, hrun, hended, _, _, rfl, hQ, ⟨_, rfl⟩, hW, hsame.mono hc hs⟩
theorem g_lret (X : Stand p l e R s m args below meth c T locs cells slots) (K : Kt p Z s m meth c y bytes maxL (some .long)) {z : Int64} (hd : decode bytes pc = .ok (.lreturn, 1)) (hc : cells ≤ kc) (hs : slots ≤ ks) (hQ : Q (some (.long z)) T.heap locs) : Go p e below (Done s below Q kc ks) T (mkF m pc Ls (.long z :: S)) := by
  obtain ⟨fs, hr, hrun, hended, hW, hsame⟩ := X.leave (v := some (.long z)) (fun h => by rw [K.rt] at h; cases h) K.lk
  exact ⟨_, retOut X K.x K.rt rfl (Or.inr (Or.inl ⟨rfl, rfl, z, rfl⟩)) (K.d hd) hr, _, hrun, hended, _, _, rfl, hQ, ⟨_, rfl⟩, hW, hsame.mono hc hs⟩
theorem g_aret {t : FieldType} {w : Value} (X : Stand p l e R s m args below meth c T locs cells slots) (K : Kt p Z s m meth c y bytes maxL (some t)) (ht : t.isReference = true) (hw : w.isRef = true) (hn : narrow t w = w) (hd : decode bytes pc = .ok (.areturn, 1)) (hc : cells ≤ kc) (hs : slots ≤ ks) (hQ : Q (some w) T.heap locs) : Go p e below (Done s below Q kc ks) T (mkF m pc Ls (w :: S)) := by
  obtain ⟨fs, hr, hrun, hended, hW, hsame⟩ := X.leave (v := some w) (fun h => by rw [K.rt] at h; cases h) K.lk
  exact ⟨_, retOut X K.x K.rt hn (Or.inr (Or.inr (Or.inr (Or.inr ⟨rfl, ht, hw⟩)))) (K.d hd) hr, _, hrun, hended, _, _, rfl, hQ, ⟨_, rfl⟩, hW, hsame.mono hc hs⟩
/-! plain steps -/
section Plain
theorem g_iloadN (X : Stand p l e R s m args below meth c T locs cells slots) (K : Kt p Z s m meth c y bytes maxL ret) {k : Fin 4} {v : Int32} (hd : decode bytes pc = .ok (.iload_n k, 1)) (hl : Ls[k.val]? = some (.val (.int v))) (hq : pc + 1 = q) (h : Go p e below P T (mkF m q Ls (.int v :: S))) : Go p e below P T (mkF m pc Ls S) := by
  subst hq; exact Go.by_ (fun t k => XS.iloadN X.here K.x rfl (K.d hd) hl k) h
theorem g_iload (X : Stand p l e R s m args below meth c T locs cells slots) (K : Kt p Z s m meth c y bytes maxL ret) {k : Nat} {v : Int32} (hd : decode bytes pc = .ok (.iload k, 2)) (hl : Ls[k]? = some (.val (.int v))) (hq : pc + 2 = q) (h : Go p e below P T (mkF m q Ls (.int v :: S))) : Go p e below P T (mkF m pc Ls S) := by
  subst hq; exact Go.by_ (fun t k => XS.iload X.here K.x rfl (K.d hd) hl k) h
theorem g_lloadN (X : Stand p l e R s m args below meth c T locs cells slots) (K : Kt p Z s m meth c y bytes maxL ret) {k : Fin 4} {v : Int64} (hd : decode bytes pc = .ok (.lload_n k, 1)) (hl : Ls[k.val]? = some (.val (.long v))) (hq : pc + 1 = q) (h : Go p e below P T (mkF m q Ls (.long v :: S))) : Go p e below P T (mkF m pc Ls S) := by
  subst hq; exact Go.by_ (fun t k => XS.lloadN X.here K.x rfl (K.d hd) hl k) h
theorem g_lload (X : Stand p l e R s m args below meth c T locs cells slots) (K : Kt p Z s m meth c y bytes maxL ret) {k : Nat} {v : Int64} (hd : decode bytes pc = .ok (.lload k, 2)) (hl : Ls[k]? = some (.val (.long v))) (hq : pc + 2 = q) (h : Go p e below P T (mkF m q Ls (.long v :: S))) : Go p e below P T (mkF m pc Ls S) := by
  subst hq; exact Go.by_ (fun t k => XS.lload X.here K.x rfl (K.d hd) hl k) h
theorem g_aloadN (X : Stand p l e R s m args below meth c T locs cells slots) (K : Kt p Z s m meth c y bytes maxL ret) {k : Fin 4} {v : Value} (hd : decode bytes pc = .ok (.aload_n k, 1)) (hl : Ls[k.val]? = some (.val v)) (hv : v.isRef = true) (hq : pc + 1 = q) (h : Go p e below P T (mkF m q Ls (v :: S))) : Go p e below P T (mkF m pc Ls S) := by
  subst hq; exact Go.by_ (fun t k => XS.aloadN X.here K.x rfl (K.d hd) hl hv k) h
theorem g_aload (X : Stand p l e R s m args below meth c T locs cells slots) (K : Kt p Z s m meth c y bytes maxL ret) {k : Nat} {v : Value} (hd : decode bytes pc = .ok (.aload k, 2)) (hl : Ls[k]? = some (.val v)) (hv : v.isRef = true) (hq : pc + 2 = q) (h : Go p e below P T (mkF m q Ls (v :: S))) : Go p e below P T (mkF m pc Ls S) := by
  subst hq; exact Go.by_ (fun t k => XS.aload X.here K.x rfl (K.d hd) hl hv k) h
theorem g_istoreN (X : Stand p l e R s m args below meth c T locs cells slots) (K : Kt p Z s m meth c y bytes maxL ret) {k : Fin 4} {v : Int32} {L' : Array Slot} (hd : decode bytes pc = .ok (.istore_n k, 1)) (hl : storeLocals Ls k.val (.int v) = some L') (hq : pc + 1 = q) (h : Go p e below P T (mkF m q L' S)) : Go p e below P T (mkF m pc Ls (.int v :: S)) := by
  subst hq; exact Go.by_ (fun t k => XS.istoreN X.here K.x rfl (K.d hd) rfl hl k) h
theorem g_istore (X : Stand p l e R s m args below meth c T locs cells slots) (K : Kt p Z s m meth c y bytes maxL ret) {k : Nat} {v : Int32} {L' : Array Slot} (hd : decode bytes pc = .ok (.istore k, 2)) (hl : storeLocals Ls k (.int v) = some L') (hq : pc + 2 = q) (h : Go p e below P T (mkF m q L' S)) : Go p e below P T (mkF m pc Ls (.int v :: S)) := by
  subst hq; exact Go.by_ (fun t k => XS.istore X.here K.x rfl (K.d hd) rfl hl k) h
theorem g_lstoreN (X : Stand p l e R s m args below meth c T locs cells slots) (K : Kt p Z s m meth c y bytes maxL ret) {k : Fin 4} {v : Int64} {L' : Array Slot} (hd : decode bytes pc = .ok (.lstore_n k, 1)) (hl : storeLocals Ls k.val (.long v) = some L') (hq : pc + 1 = q) (h : Go p e below P T (mkF m q L' S)) : Go p e below P T (mkF m pc Ls (.long v :: S)) := by
  subst hq; exact Go.by_ (fun t k => XS.lstoreN X.here K.x rfl (K.d hd) rfl hl k) h
theorem g_lstore (X : Stand p l e R s m args below meth c T locs cells slots) (K : Kt p Z s m meth c y bytes maxL ret) {k : Nat} {v : Int64} {L' : Array Slot} (hd : decode bytes pc = .ok (.lstore k, 2)) (hl : storeLocals Ls k (.long v) = some L') (hq : pc + 2 = q) (h : Go p e below P T (mkF m q L' S)) : Go p e below P T (mkF m pc Ls (.long v :: S)) := by
  subst hq; exact Go.by_ (fun t k => XS.lstore X.here K.x rfl (K.d hd) rfl hl k) h
theorem g_astoreN (X : Stand p l e R s m args below meth c T locs cells slots) (K : Kt p Z s m meth c y bytes maxL ret) {k : Fin 4} {v : Value} {L' : Array Slot} (hd : decode bytes pc = .ok (.astore_n k, 1)) (hv : v.isRef = true) (hl : storeLocals Ls k.val v = some L') (hq : pc + 1 = q) (h : Go p e below P T (mkF m q L' S)) : Go p e below P T (mkF m pc Ls (v :: S)) := by
  subst hq; exact Go.by_ (fun t k => XS.astoreN X.here K.x rfl (K.d hd) rfl hv hl k) h
theorem g_astore (X : Stand p l e R s m args below meth c T locs cells slots) (K : Kt p Z s m meth c y bytes maxL ret) {k : Nat} {v : Value} {L' : Array Slot} (hd : decode bytes pc = .ok (.astore k, 2)) (hv : v.isRef = true) (hl : storeLocals Ls k v = some L') (hq : pc + 2 = q) (h : Go p e below P T (mkF m q L' S)) : Go p e below P T (mkF m pc Ls (v :: S)) := by
  subst hq; exact Go.by_ (fun t k => XS.astore X.here K.x rfl (K.d hd) rfl hv hl k) h
theorem g_iconst (X : Stand p l e R s m args below meth c T locs cells slots) (K : Kt p Z s m meth c y bytes maxL ret) {i : Int} {v : Int32} (hd : decode bytes pc = .ok (.iconst i, 1)) (hv : Int32.ofInt i = v) (hq : pc + 1 = q) (h : Go p e below P T (mkF m q Ls (.int v :: S))) : Go p e below P T (mkF m pc Ls S) := by
  subst hq hv; exact Go.by_ (fun t k => XS.iconst X.here K.x rfl (K.d hd) k) h
theorem g_bipush (X : Stand p l e R s m args below meth c T locs cells slots) (K : Kt p Z s m meth c y bytes maxL ret) {i : Int} {v : Int32} (hd : decode bytes pc = .ok (.bipush i, 2)) (hv : (Int8.ofInt i).toInt32 = v) (hq : pc + 2 = q) (h : Go p e below P T (mkF m q Ls (.int v :: S))) : Go p e below P T (mkF m pc Ls S) := by
  subst hq hv; exact Go.by_ (fun t k => XS.bipush X.here K.x rfl (K.d hd) k) h
theorem g_sipush (X : Stand p l e R s m args below meth c T locs cells slots) (K : Kt p Z s m meth c y bytes maxL ret) {i : Int} {v : Int32} (hd : decode bytes pc = .ok (.sipush i, 3)) (hv : (Int16.ofInt i).toInt32 = v) (hq : pc + 3 = q) (h : Go p e below P T (mkF m q Ls (.int v :: S))) : Go p e below P T (mkF m pc Ls S) := by
  subst hq hv; exact Go.by_ (fun t k => XS.sipush X.here K.x rfl (K.d hd) k) h
theorem g_null (X : Stand p l e R s m args below meth c T locs cells slots) (K : Kt p Z s m meth c y bytes maxL ret) (hd : decode bytes pc = .ok (.aconst_null, 1)) (hq : pc + 1 = q) (h : Go p e below P T (mkF m q Ls (.null :: S))) : Go p e below P T (mkF m pc Ls S) := by
  subst hq; exact Go.by_ (fun t k => XS.aconstNull X.here K.x rfl (K.d hd) k) h
theorem g_iadd (X : Stand p l e R s m args below meth c T locs cells slots) (K : Kt p Z s m meth c y bytes maxL ret) {x y z : Int32} (hd : decode bytes pc = .ok (.iadd, 1)) (hz : x + y = z) (hq : pc + 1 = q) (h : Go p e below P T (mkF m q Ls (.int z :: S))) : Go p e below P T (mkF m pc Ls (.int y :: .int x :: S)) := by
  subst hq hz; exact Go.by_ (fun t k => XS.iadd X.here K.x rfl (K.d hd) rfl k) h
theorem g_isub (X : Stand p l e R s m args below meth c T locs cells slots) (K : Kt p Z s m meth c y bytes maxL ret) {x y z : Int32} (hd : decode bytes pc = .ok (.isub, 1)) (hz : x - y = z) (hq : pc + 1 = q) (h : Go p e below P T (mkF m q Ls (.int z :: S))) : Go p e below P T (mkF m pc Ls (.int y :: .int x :: S)) := by
  subst hq hz; exact Go.by_ (fun t k => XS.isub X.here K.x rfl (K.d hd) rfl k) h
theorem g_imul (X : Stand p l e R s m args below meth c T locs cells slots) (K : Kt p Z s m meth c y bytes maxL ret) {x y z : Int32} (hd : decode bytes pc = .ok (.imul, 1)) (hz : x * y = z) (hq : pc + 1 = q) (h : Go p e below P T (mkF m q Ls (.int z :: S))) : Go p e below P T (mkF m pc Ls (.int y :: .int x :: S)) := by
  subst hq hz; exact Go.by_ (fun t k => XS.imul X.here K.x rfl (K.d hd) rfl k) h
theorem g_iand (X : Stand p l e R s m args below meth c T locs cells slots) (K : Kt p Z s m meth c y bytes maxL ret) {x y z : Int32} (hd : decode bytes pc = .ok (.iand, 1)) (hz : x &&& y = z) (hq : pc + 1 = q) (h : Go p e below P T (mkF m q Ls (.int z :: S))) : Go p e below P T (mkF m pc Ls (.int y :: .int x :: S)) := by
  subst hq hz; exact Go.by_ (fun t k => XS.iand X.here K.x rfl (K.d hd) rfl k) h
theorem g_ior (X : Stand p l e R s m args below meth c T locs cells slots) (K : Kt p Z s m meth c y bytes maxL ret) {x y z : Int32} (hd : decode bytes pc = .ok (.ior, 1)) (hz : x ||| y = z) (hq : pc + 1 = q) (h : Go p e below P T (mkF m q Ls (.int z :: S))) : Go p e below P T (mkF m pc Ls (.int y :: .int x :: S)) := by
  subst hq hz; exact Go.by_ (fun t k => XS.ior X.here K.x rfl (K.d hd) rfl k) h
theorem g_ixor (X : Stand p l e R s m args below meth c T locs cells slots) (K : Kt p Z s m meth c y bytes maxL ret) {x y z : Int32} (hd : decode bytes pc = .ok (.ixor, 1)) (hz : x ^^^ y = z) (hq : pc + 1 = q) (h : Go p e below P T (mkF m q Ls (.int z :: S))) : Go p e below P T (mkF m pc Ls (.int y :: .int x :: S)) := by
  subst hq hz; exact Go.by_ (fun t k => XS.ixor X.here K.x rfl (K.d hd) rfl k) h
theorem g_ishl (X : Stand p l e R s m args below meth c T locs cells slots) (K : Kt p Z s m meth c y bytes maxL ret) {x y z : Int32} (hd : decode bytes pc = .ok (.ishl, 1)) (hz : x <<< (y &&& 31) = z) (hq : pc + 1 = q) (h : Go p e below P T (mkF m q Ls (.int z :: S))) : Go p e below P T (mkF m pc Ls (.int y :: .int x :: S)) := by
  subst hq hz; exact Go.by_ (fun t k => XS.ishl X.here K.x rfl (K.d hd) rfl k) h
theorem g_ishr (X : Stand p l e R s m args below meth c T locs cells slots) (K : Kt p Z s m meth c y bytes maxL ret) {x y z : Int32} (hd : decode bytes pc = .ok (.ishr, 1)) (hz : x >>> (y &&& 31) = z) (hq : pc + 1 = q) (h : Go p e below P T (mkF m q Ls (.int z :: S))) : Go p e below P T (mkF m pc Ls (.int y :: .int x :: S)) := by
  subst hq hz; exact Go.by_ (fun t k => XS.ishr X.here K.x rfl (K.d hd) rfl k) h
theorem g_iushr (X : Stand p l e R s m args below meth c T locs cells slots) (K : Kt p Z s m meth c y bytes maxL ret) {x y z : Int32} (hd : decode bytes pc = .ok (.iushr, 1)) (hz : (x.toUInt32 >>> (y &&& 31).toUInt32).toInt32 = z) (hq : pc + 1 = q) (h : Go p e below P T (mkF m q Ls (.int z :: S))) : Go p e below P T (mkF m pc Ls (.int y :: .int x :: S)) := by
  subst hq hz; exact Go.by_ (fun t k => XS.iushr X.here K.x rfl (K.d hd) rfl k) h
theorem g_irem (X : Stand p l e R s m args below meth c T locs cells slots) (K : Kt p Z s m meth c y bytes maxL ret) {x y z : Int32} (hd : decode bytes pc = .ok (.irem, 1)) (hy : y ≠ 0) (hz : x % y = z) (hq : pc + 1 = q) (h : Go p e below P T (mkF m q Ls (.int z :: S))) : Go p e below P T (mkF m pc Ls (.int y :: .int x :: S)) := by
  subst hq hz; exact Go.by_ (fun t k => iremM X K.x rfl (K.d hd) rfl hy k) h
theorem g_idiv (X : Stand p l e R s m args below meth c T locs cells slots) (K : Kt p Z s m meth c y bytes maxL ret) {x y z : Int32} (hd : decode bytes pc = .ok (.idiv, 1)) (hy : y ≠ 0) (hz : x / y = z) (hq : pc + 1 = q) (h : Go p e below P T (mkF m q Ls (.int z :: S))) : Go p e below P T (mkF m pc Ls (.int y :: .int x :: S)) := by
  subst hq hz; exact Go.by_ (fun t k => XS.idiv X.here K.x rfl (K.d hd) rfl hy k) h
theorem g_ineg (X : Stand p l e R s m args below meth c T locs cells slots) (K : Kt p Z s m meth c y bytes maxL ret) {x z : Int32} (hd : decode bytes pc = .ok (.ineg, 1)) (hz : -x = z) (hq : pc + 1 = q) (h : Go p e below P T (mkF m q Ls (.int z :: S))) : Go p e below P T (mkF m pc Ls (.int x :: S)) := by
  subst hq hz; exact Go.by_ (fun t k => XS.ineg X.here K.x rfl (K.d hd) rfl k) h
theorem g_i2b (X : Stand p l e R s m args below meth c T locs cells slots) (K : Kt p Z s m meth c y bytes maxL ret) {x z : Int32} (hd : decode bytes pc = .ok (.i2b, 1)) (hz : x.toInt8.toInt32 = z) (hq : pc + 1 = q) (h : Go p e below P T (mkF m q Ls (.int z :: S))) : Go p e below P T (mkF m pc Ls (.int x :: S)) := by
  subst hq hz; exact Go.by_ (fun t k => XS.i2b X.here K.x rfl (K.d hd) rfl k) h
theorem g_i2c (X : Stand p l e R s m args below meth c T locs cells slots) (K : Kt p Z s m meth c y bytes maxL ret) {x z : Int32} (hd : decode bytes pc = .ok (.i2c, 1)) (hz : x.toUInt32.toUInt16.toUInt32.toInt32 = z) (hq : pc + 1 = q) (h : Go p e below P T (mkF m q Ls (.int z :: S))) : Go p e below P T (mkF m pc Ls (.int x :: S)) := by
  subst hq hz; exact Go.by_ (fun t k => XS.i2c X.here K.x rfl (K.d hd) rfl k) h
theorem g_i2l (X : Stand p l e R s m args below meth c T locs cells slots) (K : Kt p Z s m meth c y bytes maxL ret) {x : Int32} {z : Int64} (hd : decode bytes pc = .ok (.i2l, 1)) (hz : x.toInt64 = z) (hq : pc + 1 = q) (h : Go p e below P T (mkF m q Ls (.long z :: S))) : Go p e below P T (mkF m pc Ls (.int x :: S)) := by
  subst hq hz; exact Go.by_ (fun t k => XS.i2l X.here K.x rfl (K.d hd) rfl k) h
theorem g_lconst (X : Stand p l e R s m args below meth c T locs cells slots) (K : Kt p Z s m meth c y bytes maxL ret) {k : Fin 2} {v : Int64} (hd : decode bytes pc = .ok (.lconst k, 1)) (hv : Int64.ofInt k.val = v) (hq : pc + 1 = q) (h : Go p e below P T (mkF m q Ls (.long v :: S))) : Go p e below P T (mkF m pc Ls S) := by
  subst hq hv; exact Go.by_ (fun t k => XS.lconst X.here K.x rfl (K.d hd) k) h
theorem g_lsub (X : Stand p l e R s m args below meth c T locs cells slots) (K : Kt p Z s m meth c y bytes maxL ret) {x y z : Int64} (hd : decode bytes pc = .ok (.lsub, 1)) (hz : x - y = z) (hq : pc + 1 = q) (h : Go p e below P T (mkF m q Ls (.long z :: S))) : Go p e below P T (mkF m pc Ls (.long y :: .long x :: S)) := by
  subst hq hz; exact Go.by_ (fun t k => XS.lsub X.here K.x rfl (K.d hd) rfl k) h
theorem g_lshl (X : Stand p l e R s m args below meth c T locs cells slots) (K : Kt p Z s m meth c y bytes maxL ret) {x z : Int64} {y : Int32} (hd : decode bytes pc = .ok (.lshl, 1)) (hz : x <<< (y &&& 0x3f).toInt64 = z) (hq : pc + 1 = q) (h : Go p e below P T (mkF m q Ls (.long z :: S))) : Go p e below P T (mkF m pc Ls (.int y :: .long x :: S)) := by
  subst hq hz; exact Go.by_ (fun t k => XS.lshl X.here K.x rfl (K.d hd) rfl k) h
theorem g_lcmp (X : Stand p l e R s m args below meth c T locs cells slots) (K : Kt p Z s m meth c y bytes maxL ret) {x y : Int64} {z : Int32} (hd : decode bytes pc = .ok (.lcmp, 1)) (hz : lcmpW x y = z) (hq : pc + 1 = q) (h : Go p e below P T (mkF m q Ls (.int z :: S))) : Go p e below P T (mkF m pc Ls (.long y :: .long x :: S)) := by
  subst hq hz; exact Go.by_ (fun t k => XS.lcmp X.here K.x rfl (K.d hd) rfl k) h
theorem g_iinc (X : Stand p l e R s m args below meth c T locs cells slots) (K : Kt p Z s m meth c y bytes maxL ret) {k : Nat} {cst : Int} {x z : Int32} {L' : Array Slot} (hd : decode bytes pc = .ok (.iinc k cst, 3)) (hl : Ls[k]? = some (.val (.int x))) (hz : x + Int32.ofInt cst = z) (hl' : storeLocals Ls k (.int z) = some L') (hq : pc + 3 = q) (h : Go p e below P T (mkF m q L' S)) : Go p e below P T (mkF m pc Ls S) := by
  subst hq hz; exact Go.by_ (fun t k => XS.iinc X.here K.x rfl (K.d hd) hl hl' k) h
theorem g_dup (X : Stand p l e R s m args below meth c T locs cells slots) (K : Kt p Z s m meth c y bytes maxL ret) {x : Value} (hd : decode bytes pc = .ok (.dup, 1)) (hc : x.category = 1) (hq : pc + 1 = q) (h : Go p e below P T (mkF m q Ls (x :: x :: S))) : Go p e below P T (mkF m pc Ls (x :: S)) := by
  subst hq; exact Go.by_ (fun t k => XS.dup X.here K.x rfl (K.d hd) rfl hc k) h
theorem g_dupX1 (X : Stand p l e R s m args below meth c T locs cells slots) (K : Kt p Z s m meth c y bytes maxL ret) {x y : Value} (hd : decode bytes pc = .ok (.dup_x1, 1)) (hc : x.category = 1) (hc' : y.category = 1) (hq : pc + 1 = q) (h : Go p e below P T (mkF m q Ls (x :: y :: x :: S))) : Go p e below P T (mkF m pc Ls (x :: y :: S)) := by
  subst hq; exact Go.by_ (fun t k => XS.dupX1 X.here K.x rfl (K.d hd) rfl hc hc' k) h
theorem g_dup2 (X : Stand p l e R s m args below meth c T locs cells slots) (K : Kt p Z s m meth c y bytes maxL ret) {x y : Value} (hd : decode bytes pc = .ok (.dup2, 1)) (hc : x.category = 1) (hc' : y.category = 1) (hq : pc + 1 = q) (h : Go p e below P T (mkF m q Ls (x :: y :: x :: y :: S))) : Go p e below P T (mkF m pc Ls (x :: y :: S)) := by
  subst hq; exact Go.by_ (fun t k => XT.dup2 X.here K.x rfl (K.d hd) rfl hc hc' k) h
theorem g_pop (X : Stand p l e R s m args below meth c T locs cells slots) (K : Kt p Z s m meth c y bytes maxL ret) {x : Value} (hd : decode bytes pc = .ok (.pop, 1)) (hc : x.category = 1) (hq : pc + 1 = q) (h : Go p e below P T (mkF m q Ls S)) : Go p e below P T (mkF m pc Ls (x :: S)) := by
  subst hq; exact Go.by_ (fun t k => XS.pop X.here K.x rfl (K.d hd) rfl hc k) h
theorem g_goto (X : Stand p l e R s m args below meth c T locs cells slots) (K : Kt p Z s m meth c y bytes maxL ret) {o : Int} (hd : decode bytes pc = .ok (.goto o, 3)) (ho : 0 ≤ (pc : Int) + o) (hq : ((pc : Int) + o).toNat = q) (h : Go p e below P T (mkF m q Ls S)) : Go p e below P T (mkF m pc Ls S) :=
  Go.by_ (fun t k => XS.goto X.here K.x rfl rfl (K.d hd) ho hq k) h
theorem g_ifY (X : Stand p l e R s m args below meth c T locs cells slots) (K : Kt p Z s m meth c y bytes maxL ret) {cd : ClassFile.Cond} {x : Int32} {o : Int} (hd : decode bytes pc = .ok (.ifCond cd o, 3)) (hc : if_icmp.holds cd x 0 = true) (ho : 0 ≤ (pc : Int) + o) (hq : ((pc : Int) + o).toNat = q) (h : Go p e below P T (mkF m q Ls S)) : Go p e below P T (mkF m pc Ls (.int x :: S)) :=
  Go.by_ (fun t k => XS.ifYes X.here K.x rfl rfl (K.d hd) rfl ((if0 _ _).trans hc) ho hq k) h
theorem g_ifN (X : Stand p l e R s m args below meth c T locs cells slots) (K : Kt p Z s m meth c y bytes maxL ret) {cd : ClassFile.Cond} {x : Int32} {o : Int} (hd : decode bytes pc = .ok (.ifCond cd o, 3)) (hc : if_icmp.holds cd x 0 = false) (hq : pc + 3 = q) (h : Go p e below P T (mkF m q Ls S)) : Go p e below P T (mkF m pc Ls (.int x :: S)) := by
  subst hq; exact Go.by_ (fun t k => XS.ifNo X.here K.x rfl (K.d hd) rfl ((if0 _ _).trans hc) k) h
theorem g_icY (X : Stand p l e R s m args below meth c T locs cells slots) (K : Kt p Z s m meth c y bytes maxL ret) {cd : ClassFile.Cond} {x y : Int32} {o : Int} (hd : decode bytes pc = .ok (.if_icmp cd o, 3)) (hc : if_icmp.holds cd x y = true) (ho : 0 ≤ (pc : Int) + o) (hq : ((pc : Int) + o).toNat = q) (h : Go p e below P T (mkF m q Ls S)) : Go p e below P T (mkF m pc Ls (.int y :: .int x :: S)) :=
  Go.by_ (fun t k => XS.icmpYes X.here K.x rfl rfl (K.d hd) rfl hc ho hq k) h
theorem g_icN (X : Stand p l e R s m args below meth c T locs cells slots) (K : Kt p Z s m meth c y bytes maxL ret) {cd : ClassFile.Cond} {x y : Int32} {o : Int} (hd : decode bytes pc = .ok (.if_icmp cd o, 3)) (hc : if_icmp.holds cd x y = false) (hq : pc + 3 = q) (h : Go p e below P T (mkF m q Ls S)) : Go p e below P T (mkF m pc Ls (.int y :: .int x :: S)) := by
  subst hq; exact Go.by_ (fun t k => XS.icmpNo X.here K.x rfl (K.d hd) rfl hc k) h
theorem g_ac (X : Stand p l e R s m args below meth c T locs cells slots) (K : Kt p Z s m meth c y bytes maxL ret) {cd : ACond} {x y : Value} {o : Int} {same : Bool} (hd : decode bytes pc = .ok (.if_acmp cd o, 3)) (h1 : x.isRef = true) (h2 : y.isRef = true) (hs : decide (x = y) = same) (ho : 0 ≤ (pc : Int) + o) (hq : q = if acV cd same = true then ((pc : Int) + o).toNat else pc + 3) (h : Go p e below P T (mkF m q Ls S)) : Go p e below P T (mkF m pc Ls (y :: x :: S)) :=
  Go.by_ (fun t k => acmp X K.x rfl h1 h2 rfl (K.d hd) rfl hs ho hq k) h
theorem g_nullY (X : Stand p l e R s m args below meth c T locs cells slots) (K : Kt p Z s m meth c y bytes maxL ret) {o : Int} (hd : decode bytes pc = .ok (.ifnull o, 3)) (ho : 0 ≤ (pc : Int) + o) (hq : ((pc : Int) + o).toNat = q) (h : Go p e below P T (mkF m q Ls S)) : Go p e below P T (mkF m pc Ls (.null :: S)) :=
  Go.by_ (fun t k => XS.ifnullYes X.here K.x rfl rfl (K.d hd) rfl ho hq k) h
theorem g_nullN (X : Stand p l e R s m args below meth c T locs cells slots) (K : Kt p Z s m meth c y bytes maxL ret) {o : Int} {b : Addr} (hd : decode bytes pc = .ok (.ifnull o, 3)) (hq : pc + 3 = q) (h : Go p e below P T (mkF m q Ls S)) : Go p e below P T (mkF m pc Ls (.ref b :: S)) := by
  subst hq; exact Go.by_ (fun t k => XS.ifnullNo X.here K.x rfl (K.d hd) rfl k) h
theorem g_nonnullY (X : Stand p l e R s m args below meth c T locs cells slots) (K : Kt p Z s m meth c y bytes maxL ret) {o : Int} {b : Addr} (hd : decode bytes pc = .ok (.ifnonnull o, 3)) (ho : 0 ≤ (pc : Int) + o) (hq : ((pc : Int) + o).toNat = q) (h : Go p e below P T (mkF m q Ls S)) : Go p e below P T (mkF m pc Ls (.ref b :: S)) :=
  Go.by_ (fun t k => XS.ifnonnullYes X.here K.x rfl rfl (K.d hd) rfl ho hq k) h
theorem g_nonnullN (X : Stand p l e R s m args below meth c T locs cells slots) (K : Kt p Z s m meth c y bytes maxL ret) {o : Int} (hd : decode bytes pc = .ok (.ifnonnull o, 3)) (hq : pc + 3 = q) (h : Go p e below P T (mkF m q Ls S)) : Go p e below P T (mkF m pc Ls (.null :: S)) := by
  subst hq; exact Go.by_ (fun t k => XS.ifnonnullNo X.here K.x rfl (K.d hd) rfl k) h
theorem g_ldc (X : Stand p l e R s m args below meth c T locs cells slots) (K : Kt p Z s m meth c y bytes maxL ret) {index : Nat} {v : Int32} (w : (Jvm.Cond.constant y.cls index v).before a0 Z = true) (hd : decode bytes pc = .ok (.ldc index, 2)) (hq : pc + 2 = q) (h : Go p e below P T (mkF m q Ls (.int v :: S))) : Go p e below P T (mkF m pc Ls S) := by
  subst hq; exact Go.by_ (fun t k => X.ldcInt K.x K.own (mvT K.z w) (g := mkF m pc Ls S) rfl (K.d hd) _ k) h
theorem g_ldc2 (X : Stand p l e R s m args below meth c T locs cells slots) (K : Kt p Z s m meth c y bytes maxL ret) {index : Nat} {v : Int64} (w : (Jvm.Cond.constantLong y.cls index v).before a0 Z = true) (hd : decode bytes pc = .ok (.ldc2_w index, 3)) (hq : pc + 3 = q) (h : Go p e below P T (mkF m q Ls (.long v :: S))) : Go p e below P T (mkF m pc Ls S) := by
  subst hq; exact Go.by_ (fun t k => X.ldc2Long K.x K.own (mvT K.z w) (g := mkF m pc Ls S) rfl (K.d hd) _ k) h
theorem g_tswIn (X : Stand p l e R s m args below meth c T locs cells slots) (K : Kt p Z s m meth c y bytes maxL ret) {dflt low high : Int} {offs : Array Int} {len : Nat} {o : Int} {i : Int32} (hd : decode bytes pc = .ok (.tableswitch dflt low high offs, len)) (hin : ¬ (i.toInt < low ∨ i.toInt > high)) (hoff : offs[(i.toInt - low).toNat]? = some o) (ho : 0 ≤ (pc : Int) + o) (hq : ((pc : Int) + o).toNat = q) (h : Go p e below P T (mkF m q Ls S)) : Go p e below P T (mkF m pc Ls (.int i :: S)) :=
  Go.by_ (fun t k => XS.tswIn X.here K.x rfl rfl (K.d hd) rfl hin hoff ho hq k) h
theorem g_tswOut (X : Stand p l e R s m args below meth c T locs cells slots) (K : Kt p Z s m meth c y bytes maxL ret) {dflt low high : Int} {offs : Array Int} {len : Nat} {i : Int32} (hd : decode bytes pc = .ok (.tableswitch dflt low high offs, len)) (hout : i.toInt < low ∨ i.toInt > high) (ho : 0 ≤ (pc : Int) + dflt) (hq : ((pc : Int) + dflt).toNat = q) (h : Go p e below P T (mkF m q Ls S)) : Go p e below P T (mkF m pc Ls (.int i :: S)) :=
  Go.by_ (fun t k => XS.tswOut X.here K.x rfl rfl (K.d hd) rfl hout ho hq k) h
theorem g_dupX2 (X : Stand p l e R s m args below meth c T locs cells slots) (K : Kt p Z s m meth c y bytes maxL ret) {x y1 z : Value} (hd : decode bytes pc = .ok (.dup_x2, 1)) (hc : x.category = 1) (hc1 : y1.category = 1) (hc2 : z.category = 1) (hq : pc + 1 = q) (h : Go p e below P T (mkF m q Ls (x :: y1 :: z :: x :: S))) : Go p e below P T (mkF m pc Ls (x :: y1 :: z :: S)) := by
  subst hq
  refine Go.by_ (fun t k => ?_) h
  have hx := K.x
  have hd' := K.d hd
  jvm_step X.here [X.here.top, hx, hd', hc, hc1, hc2]
  exact k
end Plain
/-! steps that look at the heap -/
section Heap
theorem g_gets {index : Nat} {C n d : String} {v : Value} (X : Stand p l e R s m args below meth c T locs cells slots) (K : Kt p Z s m meth c y bytes maxL ret) (w : (Jvm.Cond.fieldLink y.cls index C n d).before a0 Z = true) (eT : T.heap = h) (F : Sta Z h C n d v) (hd : decode bytes pc = .ok (.getstatic index, 3)) (hq : pc + 3 = q)
    (k : ∀ T', Stand p l e R s m args below meth c T' locs cells slots → T'.heap = h → Go p e below P T' (mkF m q Ls (v :: S))) : Go p e below P T (mkF m pc Ls S) := by
  subst hq
  obtain ⟨T1, X1, e1, st⟩ := getS2 X K.x K.z (host := "") K.own (Or.inl w) Via.refl eT F (g := mkF m pc Ls S) rfl (K.d hd)
  exact Go.by_ st (k T1 X1 e1)
theorem g_getf {index : Nat} {C O n d : String} {a : Addr} {v : Value} (X : Stand p l e R s m args below meth c T locs cells slots) (K : Kt p Z s m meth c y bytes maxL ret) (w : (Jvm.Cond.fieldLink y.cls index C n d).before a0 Z = true) (via : Via Z C O n d) (eT : T.heap = h) (F : Fld Z h a O n d v) (hd : decode bytes pc = .ok (.getfield index, 3)) (hq : pc + 3 = q)
    (k : ∀ T', Stand p l e R s m args below meth c T' locs cells slots → T'.heap = h → Go p e below P T' (mkF m q Ls (v :: S))) : Go p e below P T (mkF m pc Ls (.ref a :: S)) := by
  subst hq
  obtain ⟨T1, X1, e1, st⟩ := getF X K.x K.z K.own (host := "") (Or.inl w) via eT F (g := mkF m pc Ls (.ref a :: S)) rfl rfl (K.d hd)
  exact Go.by_ st (k T1 X1 e1)
theorem g_putf {index kk : Nat} {C O n d Cl : String} {a : Addr} {v old : Value} {ty : FieldType} (X : Stand p l e R s m args below meth c T locs cells slots) (K : Kt p Z s m meth c y bytes maxL ret) (w : (Jvm.Cond.fieldLink y.cls index C n d).before a0 Z = true) (via : Via Z C O n d) (eT : T.heap = h) (F : Fld Z h a O n d old) (E : Exa Z h a Cl) (L : (Jvm.Cond.lays Cl O n d).before a0 Z = true ∨ ((Jvm.Cond.laysFinal Cl O n d).before a0 Z = true ∧ y.cls = O ∧ y.name = "<init>")) (wi : (Jvm.Cond.instantiable Cl kk).before a0 Z = true)
    (hty : parseFieldDescriptor d = some ty) (hn : narrow ty v = v) (hf : fits ty v = true) (hd : decode bytes pc = .ok (.putfield index, 3)) (hq : pc + 3 = q)
    (k : ∀ T' h', Stand p l e R s m args below meth c T' (locs ++ [⟨a, Jvm.RoadKit.slotOf Z O n d⟩]) cells slots → T'.heap = h' → Wr h h' a (Jvm.RoadKit.slotOf Z O n d) v → Fld Z h' a O n d v → Go p e below P T' (mkF m q Ls S)) : Go p e below P T (mkF m pc Ls (v :: .ref a :: S)) := by
  subst hq
  obtain ⟨T1, h1, X1, e1, W1, st⟩ := putF X K.x K.z K.own (host := "") (Or.inl w) via eT F E (L.imp id fun q => ⟨q.1, q.2.1, K.nm.trans q.2.2⟩) wi hty hn hf (g := mkF m pc Ls (v :: .ref a :: S)) rfl rfl (K.d hd)
  exact Go.by_ st (k T1 h1 X1 e1 W1 (F.same W1))
theorem g_new {index n : Nat} {C : String} (X : Stand p l e R s m args below meth c T locs cells slots) (K : Kt p Z s m meth c y bytes maxL ret) (w : (Jvm.Cond.classLink y.cls index C).before a0 Z = true) (wi : (Jvm.Cond.instantiable C n).before a0 Z = true) (wz : (Jvm.Cond.initialized C).before a0 Z = true) (eT : T.heap = h) (hd : decode bytes pc = .ok (.new index, 3)) (hc : cells + 1 ≤ R.cells) (hl : slots + n ≤ R.slots) (hq : pc + 3 = q)
    (k : ∀ (T' : State) (h' : Heap) (a : Addr), Stand p l e R s m args below meth c T' locs (cells + 1) (slots + n) → T'.heap = h' → Ext h h' → h.size = a → Exa Z h' a C → (∀ {O nm d : String} {ty : FieldType}, Laid Z a0 C O nm d → parseFieldDescriptor d = some ty → Fld Z h' a O nm d (defaultValue ty)) → Go p e below P T' (mkF m q Ls (.ref a :: S))) : Go p e below P T (mkF m pc Ls S) := by
  subst hq
  obtain ⟨T1, h1, X1, e1, E1, A1, D1, -, st⟩ := newO X K.x K.z K.own w wi wz eT (g := mkF m pc Ls S) rfl (K.d hd) hc hl
  exact Go.by_ st (k T1 h1 _ X1 e1 E1 rfl A1 D1)
theorem g_init {index : Nat} {a : Addr} {W : Nat} (X : Stand p l e R s m args below meth c T locs cells slots) (K : Kt p Z s m meth c y bytes maxL ret) (w1 : (Jvm.Cond.methodLink y.cls index Lib.objectInit).before a0 Z = true) (w2 : (Jvm.Cond.instanceMethod Lib.objectInit).before a0 Z = true) (w3 : (Jvm.Cond.code Lib.objectInit ⟨#[0xb1]⟩ 1 none).before a0 Z = true) (eT : T.heap = h) (hsz : Ls.size = maxL) (hd : decode bytes pc = .ok (.invokespecial index, 3)) (hf : 1 ≤ R.frames) (hW : (S.map fun v => v.category).sum ≤ W) (hl : W + 12 ≤ R.locals) (hq : pc + 3 = q)
    (k : ∀ T', Stand p l e R s m args below meth c T' locs cells slots → T'.heap = h → Go p e below P T' (mkF m q Ls S)) : Go p e below P T (mkF m pc Ls (.ref a :: S)) := by
  subst hq
  obtain ⟨T1, X1, e1, st⟩ := initO X K.x K.z K.own w1 w2 w3 eT (g := mkF m pc Ls (.ref a :: S)) rfl (by rw [K.ml]; exact hsz) rfl (K.d hd) hf (W := W) (by show 2 * 0 + _ ≤ _; omega) hl
  exact Go.by_ st (k T1 X1 e1)
theorem g_castN {index : Nat} (X : Stand p l e R s m args below meth c T locs cells slots) (K : Kt p Z s m meth c y bytes maxL ret) (hd : decode bytes pc = .ok (.checkcast index, 3)) (hq : pc + 3 = q) (k : Go p e below P T (mkF m q Ls (.null :: S))) : Go p e below P T (mkF m pc Ls (.null :: S)) := by
  subst hq
  exact Go.by_ (fun t k => X.checkcastNull K.x (g := mkF m pc Ls (.null :: S)) rfl rfl (K.d hd) _ k) k
theorem g_cast {index : Nat} {C : String} {a : Addr} (X : Stand p l e R s m args below meth c T locs cells slots) (K : Kt p Z s m meth c y bytes maxL ret) (w : (Jvm.Cond.classLink y.cls index C).before a0 Z = true) (eT : T.heap = h) (F : Ins Z h a C true) (hd : decode bytes pc = .ok (.checkcast index, 3)) (hq : pc + 3 = q)
    (k : ∀ T', Stand p l e R s m args below meth c T' locs cells slots → T'.heap = h → Go p e below P T' (mkF m q Ls (.ref a :: S))) : Go p e below P T (mkF m pc Ls (.ref a :: S)) := by
  subst hq
  obtain ⟨T1, X1, e1, st⟩ := castY X K.x K.z K.own w eT F (g := mkF m pc Ls (.ref a :: S)) rfl rfl (K.d hd)
  exact Go.by_ st (k T1 X1 e1)
theorem g_lambda {index : Nat} {σ : Lambda.Shape} {W : Nat} (X : Stand p l e R s m args below meth c T locs cells slots) (K : Kt p Z s m meth c y bytes maxL ret) (w : (Jvm.Cond.lambdaSite y pc index σ).before a0 Z = true) (hσ : σ.captured = []) (hsz : Ls.size = maxL) (hd : decode bytes pc = .ok (.invokedynamic index, 5)) (hW : (S.map fun v => v.category).sum ≤ W) (hl : W + 3072 ≤ R.locals) (hq : pc + 5 = q)
    (k : ∀ a : Addr, Go p e below P T (mkF m q Ls (.ref a :: S))) : Go p e below P T (mkF m pc Ls S) := by
  subst hq
  obtain ⟨cK, one, hat⟩ := Cond.lambdaSite_spec w
  obtain ⟨m', kS, cfS, i0, p0, lk, hm', hkS, hcfS, -, -, hfind, hmade, hcan, hlk⟩ := State.lambdaAt?_spec hat
  have hn : Z.methodNamed? y = some m := by
    have q := State.methodNamed?_setVm (s := Z) K.z.alike y
    have q2 : (Z.setVm s.vm).methodNamed? y = s.methodNamed? y := rfl
    rw [← q, q2]; exact K.named
  cases hn.symm.trans hm'
  rcases hlk with ⟨a, cell, rfl, -⟩ | ⟨-, -, h⟩
  · obtain ⟨k', hk', he⟩ := K.z.alike.2.2 _ _ hkS
    refine Go.by_ (fun t kk => X.lambdaConstant K.x (g := mkF m pc Ls S) rfl (by rw [K.ml]; exact hsz) (K.d hd) hk' (by rw [he]; exact hfind) (by rw [X.admits.platform]; show 2 * 0 + (S.map fun v => v.category).sum + 3072 ≤ _; omega) kk) (k a)
  · exact absurd hσ h
/-! arrays -/
theorem g_len {a : Addr} {kA : ClassId} {ty : FieldType} {n : Int32} {vs : List Value} {dv : Value} (X : Stand p l e R s m args below meth c T locs cells slots) (K : Kt p Z s m meth c y bytes maxL ret) (eT : T.heap = h) (A : Arv Z h a kA ty n vs dv) (hd : decode bytes pc = .ok (.arraylength, 1)) (hq : pc + 1 = q) (k : Go p e below P T (mkF m q Ls (.int n :: S))) : Go p e below P T (mkF m pc Ls (.ref a :: S)) := by
  subst hq
  obtain ⟨cl, Ar, -, Sz, Nn, -, -⟩ := A
  refine Go.by_ (fun t k => X.arraylength K.x (by rw [eT]; exact Ar.1) (State.isArrayOf_alike K.z.alike Ar.2.1) (g := mkF m pc Ls (.ref a :: S)) rfl rfl (K.d hd) _ k) ?_
  rw [len_of Sz Nn]; exact k
theorem arv_at {a : Addr} {kA : ClassId} {ty : FieldType} {n j : Int32} {vs : List Value} {dv v : Value} (A : Arv Z h a kA ty n vs dv) (hj : ¬ j < 0 ∧ j < n) (hv : vs.getD j.toNatClampNeg dv = v) :
    ∃ cl, Arr Z h a cl ty ∧ ¬ (j < 0 ∨ cl.slots.size ≤ j.toNatClampNeg) ∧ cl.slots[j.toNatClampNeg]? = some v := by
  obtain ⟨cl, Ar, -, Sz, Nn, H, -⟩ := A
  have hin := inb_of Sz hj
  exact ⟨cl, Ar, hin, H.at hin hv⟩
theorem g_iald {a : Addr} {kA : ClassId} {n j : Int32} {vs : List Value} {dv v : Value} (X : Stand p l e R s m args below meth c T locs cells slots) (K : Kt p Z s m meth c y bytes maxL ret) (eT : T.heap = h) (A : Arv Z h a kA .int n vs dv) (hj : ¬ j < 0 ∧ j < n) (hv : vs.getD j.toNatClampNeg dv = v) (hd : decode bytes pc = .ok (.iaload, 1)) (hq : pc + 1 = q) (k : Go p e below P T (mkF m q Ls (v :: S))) : Go p e below P T (mkF m pc Ls (.int j :: .ref a :: S)) := by
  subst hq
  obtain ⟨cl, Ar, hin, hat⟩ := arv_at A hj hv
  exact Go.by_ (fun t k => X.iaload K.x (by rw [eT]; exact Ar.1) (State.isArrayOf_alike K.z.alike Ar.2.1) Ar.2.2 hin hat (g := mkF m pc Ls (.int j :: .ref a :: S)) rfl rfl (K.d hd) _ k) k
theorem g_bald {a : Addr} {kA : ClassId} {n j : Int32} {vs : List Value} {dv v : Value} (X : Stand p l e R s m args below meth c T locs cells slots) (K : Kt p Z s m meth c y bytes maxL ret) (eT : T.heap = h) (A : Arv Z h a kA .byte n vs dv) (hj : ¬ j < 0 ∧ j < n) (hv : vs.getD j.toNatClampNeg dv = v) (hd : decode bytes pc = .ok (.baload, 1)) (hq : pc + 1 = q) (k : Go p e below P T (mkF m q Ls (v :: S))) : Go p e below P T (mkF m pc Ls (.int j :: .ref a :: S)) := by
  subst hq
  obtain ⟨cl, Ar, hin, hat⟩ := arv_at A hj hv
  exact Go.by_ (fun t k => X.baloadBytes K.x (by rw [eT]; exact Ar.1) (State.isArrayOf_alike K.z.alike Ar.2.1) Ar.2.2 hin hat (g := mkF m pc Ls (.int j :: .ref a :: S)) rfl rfl (K.d hd) _ k) k
theorem g_zald {a : Addr} {kA : ClassId} {n j : Int32} {vs : List Value} {dv v : Value} (X : Stand p l e R s m args below meth c T locs cells slots) (K : Kt p Z s m meth c y bytes maxL ret) (eT : T.heap = h) (A : Arv Z h a kA .boolean n vs dv) (hj : ¬ j < 0 ∧ j < n) (hv : vs.getD j.toNatClampNeg dv = v) (hd : decode bytes pc = .ok (.baload, 1)) (hq : pc + 1 = q) (k : Go p e below P T (mkF m q Ls (v :: S))) : Go p e below P T (mkF m pc Ls (.int j :: .ref a :: S)) := by
  subst hq
  obtain ⟨cl, Ar, hin, hat⟩ := arv_at A hj hv
  exact Go.by_ (fun t k => X.baloadBooleans K.x (by rw [eT]; exact Ar.1) (State.isArrayOf_alike K.z.alike Ar.2.1) Ar.2.2 hin hat (g := mkF m pc Ls (.int j :: .ref a :: S)) rfl rfl (K.d hd) _ k) k
theorem g_aald {a : Addr} {kA : ClassId} {ty : FieldType} {n j : Int32} {vs : List Value} {dv v : Value} (X : Stand p l e R s m args below meth c T locs cells slots) (K : Kt p Z s m meth c y bytes maxL ret) (eT : T.heap = h) (A : Arv Z h a kA ty n vs dv) (hty : ty.isReference = true) (hj : ¬ j < 0 ∧ j < n) (hv : vs.getD j.toNatClampNeg dv = v) (hd : decode bytes pc = .ok (.aaload, 1)) (hq : pc + 1 = q) (k : Go p e below P T (mkF m q Ls (v :: S))) : Go p e below P T (mkF m pc Ls (.int j :: .ref a :: S)) := by
  subst hq
  obtain ⟨cl, Ar, hin, hat⟩ := arv_at A hj hv
  exact Go.by_ (fun t k => X.aaload K.x (by rw [eT]; exact Ar.1) (State.isArrayOf_alike K.z.alike Ar.2.1) hty Ar.2.2 hin hat (g := mkF m pc Ls (.int j :: .ref a :: S)) rfl rfl (K.d hd) _ k) k
theorem g_newp {aty : ArrayType} {n : Int32} {cap : Nat} {ty : FieldType} {vs : List Value} (X : Stand p l e R s m args below meth c T locs cells slots) (K : Kt p Z s m meth c y bytes maxL ret) (w : (Jvm.Cond.arrayClass ty).before a0 Z = true) (hty : newarray.typeOf aty = ty) (eT : T.heap = h) (hd : decode bytes pc = .ok (.newarray aty, 2)) (hn : ¬ n < 0) (hcap : n.toNatClampNeg ≤ cap) (hvs : List.replicate cap (defaultValue ty) = vs) (hb : cap * 8 ≤ 536870912) (hc : cells + 1 ≤ R.cells) (hl : slots + cap ≤ R.slots) (hq : pc + 2 = q)
    (k : ∀ (T' : State) (h' : Heap) (a : Addr) (kA : ClassId), Stand p l e R s m args below meth c T' locs (cells + 1) (slots + cap) → T'.heap = h' → Ext h h' → h.size = a → Arv Z h' a kA ty n vs (defaultValue ty) → Go p e below P T' (mkF m q Ls (.ref a :: S))) : Go p e below P T (mkF m pc Ls (.int n :: S)) := by
  subst hq hty hvs
  obtain ⟨T1, h1, kA, X1, e1, E1, A1, st⟩ := newP X K.x K.z w eT (g := mkF m pc Ls (.int n :: S)) rfl (K.d hd) rfl hn hcap hb hc hl
  exact Go.by_ st (k T1 h1 _ kA X1 e1 E1 rfl ((Arv.new A1 hn).pad (pad_rep [] _ cap)))
theorem g_newr {index : Nat} {C : String} {n : Int32} {cap : Nat} {vs : List Value} (X : Stand p l e R s m args below meth c T locs cells slots) (K : Kt p Z s m meth c y bytes maxL ret) (w : (Jvm.Cond.classLink y.cls index C).before a0 Z = true) (w2 : (Jvm.Cond.arrayOver (.object C)).before a0 Z = true) (eT : T.heap = h) (hd : decode bytes pc = .ok (.anewarray index, 3)) (hn : ¬ n < 0) (hcap : n.toNatClampNeg ≤ cap) (hvs : List.replicate cap Value.null = vs) (hb : cap * 8 ≤ 536870912) (hc : cells + 1 ≤ R.cells) (hl : slots + cap ≤ R.slots) (hq : pc + 3 = q)
    (k : ∀ (T' : State) (h' : Heap) (a : Addr) (kA : ClassId), Stand p l e R s m args below meth c T' locs (cells + 1) (slots + cap) → T'.heap = h' → Ext h h' → h.size = a → Arv Z h' a kA (.object C) n vs .null → Ovr Z kA C → Go p e below P T' (mkF m q Ls (.ref a :: S))) : Go p e below P T (mkF m pc Ls (.int n :: S)) := by
  subst hq hvs
  obtain ⟨T1, h1, kA, X1, e1, E1, A1, O1, st⟩ := newR X K.x K.z K.own w w2 eT (g := mkF m pc Ls (.int n :: S)) rfl (K.d hd) rfl hn hcap hb hc hl
  exact Go.by_ st (k T1 h1 _ kA X1 e1 E1 rfl ((Arv.new A1 hn).pad (pad_rep [] _ cap)) O1)
theorem g_grid {index : Nat} {C ad : String} {ty : FieldType} {n k : Int32} {N cap : Nat} {vs : List Value} (X : Stand p l e R s m args below meth c T locs cells slots) (K : Kt p Z s m meth c y bytes maxL ret) (hC : (FieldType.array ty).toString = C) (had : "[" ++ C = ad) (w1 : (Jvm.Cond.classLink y.cls index ad).before a0 Z = true) (w2 : (Jvm.Cond.arrayOver (.array ty)).before a0 Z = true) (w3 : (Jvm.Cond.arrayClass ty).before a0 Z = true) (eT : T.heap = h) (hd : decode bytes pc = .ok (.multianewarray index 2, 4)) (hn : ¬ n < 0) (hk : ¬ k < 0) (hN : n.toNatClampNeg = N) (hcap : k.toNatClampNeg ≤ cap) (hvs : List.replicate cap (defaultValue ty) = vs) (hb : cap * 8 ≤ 536870912) (hb1 : N ≤ 1000) (hdf : fits ty (defaultValue ty) = true) (hdd : (defaultValue ty).isDefault = true) (hc : cells + (1 + N) ≤ R.cells) (hl : slots + (N + N * cap) ≤ R.slots) (hq : pc + 4 = q)
    (kk : ∀ (T' : State) (h' : Heap) (a : Addr) (kA kI : ClassId), Stand p l e R s m args below meth c T' locs (cells + (1 + N)) (slots + (N + N * cap)) → T'.heap = h' → Ext h h' → h.size = a → Arv Z h' a kA (.array ty) n ((List.range N).map fun j => Value.ref (a + 1 + j)) .null → (∀ j : Nat, j < N → Arv Z h' (a + 1 + j) kI ty k vs (defaultValue ty)) → Go p e below P T' (mkF m q Ls (.ref a :: S))) : Go p e below P T (mkF m pc Ls (.int k :: .int n :: S)) := by
  subst hq hvs
  obtain ⟨T1, h1, kA, kI, X1, e1, E1, A1, -, -, I1, st⟩ := gridM X K.x K.z K.own hC had w1 w2 w3 eT (g := mkF m pc Ls (.int k :: .int n :: S)) rfl (K.d hd) rfl hn hk hN rfl hcap hb hb1 hdf hdd hc hl
  refine Go.by_ st (kk T1 h1 _ kA kI X1 e1 E1 rfl ?_ fun j hj => ?_)
  · simpa [List.map_map, Function.comp_def] using A1
  · exact (Arv.new (I1 j _ (by simp [hj])).1 hk).pad (pad_rep [] _ cap)
theorem arv_set {a : Addr} {kA : ClassId} {ty : FieldType} {n j : Int32} {vs vs' : List Value} {dv v : Value} {h' : Heap} (A : Arv Z h a kA ty n vs dv) (hv : fits ty v = true) (W : Wr h h' a j.toNatClampNeg v) (hl : j.toNatClampNeg < vs.length) (hs : vs.set j.toNatClampNeg v = vs') : Arv Z h' a kA ty n vs' dv := by
  subst hs
  obtain ⟨cl, Ar, q1, Sz, Nn, H, G⟩ := A
  exact Arv.set Ar q1 Sz Nn H G hv W _ rfl hl
theorem g_iast {a : Addr} {kA : ClassId} {n j x : Int32} {vs vs' : List Value} {dv : Value} (X : Stand p l e R s m args below meth c T locs cells slots) (K : Kt p Z s m meth c y bytes maxL ret) (eT : T.heap = h) (A : Arv Z h a kA .int n vs dv) (hj : ¬ j < 0 ∧ j < n) (hl : j.toNatClampNeg < vs.length) (hs : vs.set j.toNatClampNeg (.int x) = vs') (hd : decode bytes pc = .ok (.iastore, 1)) (hq : pc + 1 = q)
    (k : ∀ T' h', Stand p l e R s m args below meth c T' (locs ++ [⟨a, j.toNatClampNeg⟩]) cells slots → T'.heap = h' → Wr h h' a j.toNatClampNeg (.int x) → Arv Z h' a kA .int n vs' dv → Go p e below P T' (mkF m q Ls S)) : Go p e below P T (mkF m pc Ls (.int x :: .int j :: .ref a :: S)) := by
  subst hq
  obtain ⟨cl, Ar, hin, -⟩ := arv_at A hj rfl
  obtain ⟨T1, h1, X1, e1, W1, st⟩ := stI X K.x K.z eT Ar hin (g := mkF m pc Ls (.int x :: .int j :: .ref a :: S)) rfl rfl (K.d hd)
  exact Go.by_ st (k T1 h1 X1 e1 W1 (arv_set A rfl W1 hl hs))
theorem g_last {a : Addr} {kA : ClassId} {n j : Int32} {x : Int64} {vs vs' : List Value} {dv : Value} (X : Stand p l e R s m args below meth c T locs cells slots) (K : Kt p Z s m meth c y bytes maxL ret) (eT : T.heap = h) (A : Arv Z h a kA .long n vs dv) (hj : ¬ j < 0 ∧ j < n) (hl : j.toNatClampNeg < vs.length) (hs : vs.set j.toNatClampNeg (.long x) = vs') (hd : decode bytes pc = .ok (.lastore, 1)) (hq : pc + 1 = q)
    (k : ∀ T' h', Stand p l e R s m args below meth c T' (locs ++ [⟨a, j.toNatClampNeg⟩]) cells slots → T'.heap = h' → Wr h h' a j.toNatClampNeg (.long x) → Arv Z h' a kA .long n vs' dv → Go p e below P T' (mkF m q Ls S)) : Go p e below P T (mkF m pc Ls (.long x :: .int j :: .ref a :: S)) := by
  subst hq
  obtain ⟨cl, Ar, hin, -⟩ := arv_at A hj rfl
  obtain ⟨T1, h1, X1, e1, W1, st⟩ := stJ X K.x K.z eT Ar hin (g := mkF m pc Ls (.long x :: .int j :: .ref a :: S)) rfl rfl (K.d hd)
  exact Go.by_ st (k T1 h1 X1 e1 W1 (arv_set A rfl W1 hl hs))
theorem g_bast {a : Addr} {kA : ClassId} {n j x z : Int32} {vs vs' : List Value} {dv : Value} (X : Stand p l e R s m args below meth c T locs cells slots) (K : Kt p Z s m meth c y bytes maxL ret) (eT : T.heap = h) (A : Arv Z h a kA .byte n vs dv) (hj : ¬ j < 0 ∧ j < n) (hl : j.toNatClampNeg < vs.length) (hz : nar .byte x = z) (hs : vs.set j.toNatClampNeg (.int z) = vs') (hd : decode bytes pc = .ok (.bastore, 1)) (hq : pc + 1 = q)
    (k : ∀ T' h', Stand p l e R s m args below meth c T' (locs ++ [⟨a, j.toNatClampNeg⟩]) cells slots → T'.heap = h' → Wr h h' a j.toNatClampNeg (.int z) → Arv Z h' a kA .byte n vs' dv → Go p e below P T' (mkF m q Ls S)) : Go p e below P T (mkF m pc Ls (.int x :: .int j :: .ref a :: S)) := by
  subst hq hz
  obtain ⟨cl, Ar, hin, -⟩ := arv_at A hj rfl
  obtain ⟨T1, h1, X1, e1, W1, st⟩ := stB X K.x K.z eT Ar hin (g := mkF m pc Ls (.int x :: .int j :: .ref a :: S)) rfl rfl (K.d hd)
  exact Go.by_ st (k T1 h1 X1 e1 W1 (arv_set A (fits_nar_byte _) W1 hl hs))
theorem g_zast {a : Addr} {kA : ClassId} {n j x z : Int32} {vs vs' : List Value} {dv : Value} (X : Stand p l e R s m args below meth c T locs cells slots) (K : Kt p Z s m meth c y bytes maxL ret) (eT : T.heap = h) (A : Arv Z h a kA .boolean n vs dv) (hj : ¬ j < 0 ∧ j < n) (hl : j.toNatClampNeg < vs.length) (hz : nar .boolean x = z) (hs : vs.set j.toNatClampNeg (.int z) = vs') (hd : decode bytes pc = .ok (.bastore, 1)) (hq : pc + 1 = q)
    (k : ∀ T' h', Stand p l e R s m args below meth c T' (locs ++ [⟨a, j.toNatClampNeg⟩]) cells slots → T'.heap = h' → Wr h h' a j.toNatClampNeg (.int z) → Arv Z h' a kA .boolean n vs' dv → Go p e below P T' (mkF m q Ls S)) : Go p e below P T (mkF m pc Ls (.int x :: .int j :: .ref a :: S)) := by
  subst hq hz
  obtain ⟨cl, Ar, hin, -⟩ := arv_at A hj rfl
  obtain ⟨T1, h1, X1, e1, W1, st⟩ := stZ X K.x K.z eT Ar hin (g := mkF m pc Ls (.int x :: .int j :: .ref a :: S)) rfl rfl (K.d hd)
  exact Go.by_ st (k T1 h1 X1 e1 W1 (arv_set A (fits_nar_bool _) W1 hl hs))
theorem g_aast {a : Addr} {kA : ClassId} {C : String} {n j : Int32} {v : Value} {vs vs' : List Value} {dv : Value} (X : Stand p l e R s m args below meth c T locs cells slots) (K : Kt p Z s m meth c y bytes maxL ret) (eT : T.heap = h) (A : Arv Z h a kA (.object C) n vs dv) (hv : v = .null ∨ ∃ b, v = .ref b ∧ Ovr Z kA C ∧ Ins Z h b C true) (hj : ¬ j < 0 ∧ j < n) (hl : j.toNatClampNeg < vs.length) (hs : vs.set j.toNatClampNeg v = vs') (hd : decode bytes pc = .ok (.aastore, 1)) (hq : pc + 1 = q)
    (k : ∀ T' h', Stand p l e R s m args below meth c T' (locs ++ [⟨a, j.toNatClampNeg⟩]) cells slots → T'.heap = h' → Wr h h' a j.toNatClampNeg v → Arv Z h' a kA (.object C) n vs' dv → Go p e below P T' (mkF m q Ls S)) : Go p e below P T (mkF m pc Ls (v :: .int j :: .ref a :: S)) := by
  subst hq
  have hfit : fits (.object C) v = true := by rcases hv with rfl | ⟨b, rfl, -⟩ <;> rfl
  obtain ⟨cl, Ar, q1, Sz, -⟩ := id A
  have hin := inb_of Sz hj
  have F : Sto Z h a v := by
    rcases hv with rfl | ⟨b, rfl, O, I⟩
    · exact Or.inl rfl
    · exact Sto.ofV Ar q1 O I
  obtain ⟨T1, h1, X1, e1, W1, st⟩ := stR X K.x K.z eT Ar hin rfl F (g := mkF m pc Ls (v :: .int j :: .ref a :: S)) rfl rfl (K.d hd)
  exact Go.by_ st (k T1 h1 X1 e1 W1 (arv_set A hfit W1 hl hs))
/-! calls -/
variable {y' : MethodName} {bytes' : ByteArray} {maxL' : Nat} {ret' : Option FieldType} {rm : Room} {as' : Array Value} {Q' : Option Value → Heap → List Loc → Prop} {index : Nat} {argsL rest : List Value} {W : Nat}
theorem g_static (X : Stand p l e R s m args below meth c T locs cells slots) (K : Kt p Z s m meth c y bytes maxL ret) (w1 : (Jvm.Cond.methodLink y.cls index y').before a0 Z = true) (w2 : (Jvm.Cond.static y').before a0 Z = true) (w3 : (Jvm.Cond.initialized y'.cls).before a0 Z = true) (w4 : (Jvm.Cond.code y' bytes' maxL' ret').before a0 Z = true) (hy : y'.cls ≠ "java/lang/invoke/MethodHandle" ∧ y'.cls ≠ "java/lang/invoke/VarHandle")
    (hM : Mt l Z y' bytes' maxL' ret' [] rm as' h Q') (eT : T.heap = h) (hsz : Ls.size = maxL) (hlen : ∀ sig, parseMethodDescriptor y'.desc = some sig → argsL.length = sig.parameters.length) (hst : S = argsL.reverse ++ rest) (has : argsL.toArray = as') (hW : (rest.map fun v => v.category).sum ≤ W) (hd : decode bytes pc = .ok (.invokestatic index, 3))
    (hf : rm.frames + 1 ≤ R.frames) (hl : W + (maxL' + 11) + rm.locals ≤ R.locals) (hc : cells + rm.cells ≤ R.cells) (hs : slots + rm.slots ≤ R.slots) (hq : pc + 3 = q)
    (k : ∀ T' v L, Stand p l e R s m args below meth c T' (locs ++ L) (cells + rm.cells) (slots + rm.slots) → Q' v T'.heap L → Go p e below P T' (mkF m q Ls (v.toList ++ rest))) : Go p e below P T (mkF m pc Ls S) := by
  subst hq has hst
  obtain ⟨v, _, ⟨T1, L1, k1, n1⟩, -, X1, ⟨Lc, hQ, l1, y1, z1⟩, st⟩ := Jvm.LawKit.callS X K.x (y := y') K.own (mvT K.z w1) (mvT K.z w2) (mvT K.z w3) (mvT K.z w4) hy (backOf (W := W) hM K.z w4 w3 hf hl) (g := mkF m pc Ls (argsL.reverse ++ rest)) rfl (by rw [K.ml]; exact hsz) (argsL := argsL) (rest := rest) hlen rfl (by show 2 * 0 + _ ≤ _; omega) (K.d hd) (fun _ _ => ⟨rfl, eT, hc, hs⟩)
  dsimp only [Pt.U, Pt.locs, Pt.cells, Pt.slots] at X1 l1 y1 z1 st hQ
  subst l1 y1 z1
  exact Go.by_ st (k T1 v Lc X1 hQ)
theorem g_special {a : Addr} (X : Stand p l e R s m args below meth c T locs cells slots) (K : Kt p Z s m meth c y bytes maxL ret) (hy1 : y'.name = "<init>") (w1 : (Jvm.Cond.methodLink y.cls index y').before a0 Z = true) (w2 : (Jvm.Cond.instanceMethod y').before a0 Z = true) (w3 : (Jvm.Cond.initialized y'.cls).before a0 Z = true) (w4 : (Jvm.Cond.code y' bytes' maxL' none).before a0 Z = true) (hy : y'.cls ≠ "java/lang/invoke/MethodHandle" ∧ y'.cls ≠ "java/lang/invoke/VarHandle")
    (hM : Mt l Z y' bytes' maxL' none [] rm as' h Q') (eT : T.heap = h) (hsz : Ls.size = maxL) (hlen : ∀ sig, parseMethodDescriptor y'.desc = some sig → argsL.length = sig.parameters.length) (hst : S = argsL.reverse ++ .ref a :: rest) (has : (Value.ref a :: argsL).toArray = as') (hW : (rest.map fun v => v.category).sum ≤ W) (hd : decode bytes pc = .ok (.invokespecial index, 3))
    (hf : rm.frames + 1 ≤ R.frames) (hl : W + (maxL' + 11) + rm.locals ≤ R.locals) (hc : cells + rm.cells ≤ R.cells) (hs : slots + rm.slots ≤ R.slots) (hq : pc + 3 = q)
    (k : ∀ T' v L, Stand p l e R s m args below meth c T' (locs ++ L) (cells + rm.cells) (slots + rm.slots) → Q' v T'.heap L → Go p e below P T' (mkF m q Ls (v.toList ++ rest))) : Go p e below P T (mkF m pc Ls S) := by
  subst hq has hst
  obtain ⟨v, _, ⟨T1, L1, k1, n1⟩, -, X1, ⟨Lc, hQ, l1, y1, z1⟩, st⟩ := X.specialBack K.x (y := y') hy1 K.own (mvT K.z w1) (mvT K.z w2) (mvT K.z w4) hy (backOf (W := W) hM K.z w4 w3 hf hl) (g := mkF m pc Ls (argsL.reverse ++ .ref a :: rest)) rfl (by rw [K.ml]; exact hsz) (Steps.refl _) (a := a) (argsL := argsL) (rest := rest) hlen rfl (by show 2 * 0 + _ ≤ _; omega) (K.d hd) (fun _ _ => ⟨rfl, eT, hc, hs⟩)
  dsimp only [Pt.U, Pt.locs, Pt.cells, Pt.slots] at X1 l1 y1 z1 st hQ
  subst l1 y1 z1
  exact Go.tr st (k T1 v Lc X1 hQ)
theorem g_virtual {a : Addr} {C : String} {z' : MethodName} (X : Stand p l e R s m args below meth c T locs cells slots) (K : Kt p Z s m meth c y bytes maxL ret) (w1 : (Jvm.Cond.methodLink y.cls index y').before a0 Z = true) (w2 : (Jvm.Cond.declares y').before a0 Z = true) (nf : NotFace s y') (w5 : (Jvm.Cond.selects C y' z').before a0 Z = true) (w6 : (Jvm.Cond.instanceMethod z').before a0 Z = true) (w3 : (Jvm.Cond.initialized z'.cls).before a0 Z = true) (w4 : (Jvm.Cond.code z' bytes' maxL' ret').before a0 Z = true) (hy : y'.cls ≠ "java/lang/invoke/MethodHandle" ∧ y'.cls ≠ "java/lang/invoke/VarHandle")
    (hM : Mt l Z z' bytes' maxL' ret' [] rm as' h Q') (eT : T.heap = h) (E : Exa Z h a C) (hsz : Ls.size = maxL) (hlen : ∀ sig, parseMethodDescriptor y'.desc = some sig → argsL.length = sig.parameters.length) (hst : S = argsL.reverse ++ .ref a :: rest) (has : (Value.ref a :: argsL).toArray = as') (hW : (rest.map fun v => v.category).sum ≤ W) (hd : decode bytes pc = .ok (.invokevirtual index, 3))
    (hf : rm.frames + 1 ≤ R.frames) (hl : W + (maxL' + 11) + rm.locals ≤ R.locals) (hc : cells + rm.cells ≤ R.cells) (hs : slots + rm.slots ≤ R.slots) (hq : pc + 3 = q)
    (k : ∀ T' v L, Stand p l e R s m args below meth c T' (locs ++ L) (cells + rm.cells) (slots + rm.slots) → Q' v T'.heap L → Go p e below P T' (mkF m q Ls (v.toList ++ rest))) : Go p e below P T (mkF m pc Ls S) := by
  subst hq has hst
  obtain ⟨cq, kq, qa, qb, qc⟩ := isOf K.z eT E
  obtain ⟨v, _, ⟨T1, L1, k1, n1⟩, -, X1, ⟨Lc, hQ, l1, y1, z1⟩, st⟩ := X.virtualBack K.x (y := y') (z := z') K.own (mvT K.z w1) (mvT K.z w2) nf (mvT K.z w5) (mvT K.z w6) hy (backOf (W := W) hM K.z w4 w3 hf hl) qa qc (g := mkF m pc Ls (argsL.reverse ++ .ref a :: rest)) rfl (by rw [K.ml]; exact hsz) (Steps.refl _) (argsL := argsL) (rest := rest) hlen rfl (by show 2 * 0 + _ ≤ _; omega) (K.d hd) (fun _ _ => ⟨rfl, eT, hc, hs⟩)
  dsimp only [Pt.U, Pt.locs, Pt.cells, Pt.slots] at X1 l1 y1 z1 st hQ
  subst l1 y1 z1
  exact Go.tr st (k T1 v Lc X1 hQ)
theorem g_virtualUp {a : Addr} {C owner : String} {z' : MethodName} (X : Stand p l e R s m args below meth c T locs cells slots) (K : Kt p Z s m meth c y bytes maxL ret) (w1 : (Jvm.Cond.methodLink y.cls index y').before a0 Z = true) (w0 : (Jvm.Cond.sameMethod y'.cls owner y'.name y'.desc).before a0 Z = true) (w2 : (Jvm.Cond.declares ⟨owner, y'.name, y'.desc⟩).before a0 Z = true) (hy : owner ≠ "java/lang/invoke/MethodHandle" ∧ owner ≠ "java/lang/invoke/VarHandle") (w5 : (Jvm.Cond.selects C y' z').before a0 Z = true) (w6 : (Jvm.Cond.instanceMethod z').before a0 Z = true) (w3 : (Jvm.Cond.initialized z'.cls).before a0 Z = true) (w4 : (Jvm.Cond.code z' bytes' maxL' ret').before a0 Z = true)
    (hM : Mt l Z z' bytes' maxL' ret' [] rm as' h Q') (eT : T.heap = h) (E : Exa Z h a C) (hsz : Ls.size = maxL) (hlen : ∀ sig, parseMethodDescriptor y'.desc = some sig → argsL.length = sig.parameters.length) (hst : S = argsL.reverse ++ .ref a :: rest) (has : (Value.ref a :: argsL).toArray = as') (hW : (rest.map fun v => v.category).sum ≤ W) (hd : decode bytes pc = .ok (.invokevirtual index, 3))
    (hf : rm.frames + 1 ≤ R.frames) (hl : W + (maxL' + 11) + rm.locals ≤ R.locals) (hc : cells + rm.cells ≤ R.cells) (hs : slots + rm.slots ≤ R.slots) (hq : pc + 3 = q)
    (k : ∀ T' v L, Stand p l e R s m args below meth c T' (locs ++ L) (cells + rm.cells) (slots + rm.slots) → Q' v T'.heap L → Go p e below P T' (mkF m q Ls (v.toList ++ rest))) : Go p e below P T (mkF m pc Ls S) := by
  subst hq has hst
  obtain ⟨cq, kq, qa, qb, qc⟩ := isOf K.z eT E
  obtain ⟨v, _, ⟨T1, L1, k1, n1⟩, -, X1, ⟨Lc, hQ, l1, y1, z1⟩, st⟩ := X.virtualBackUp K.x (x := y') (y := z') K.own (mvT K.z w1) (mvT K.z w0) (mvT K.z w2) hy (mvT K.z w5) (mvT K.z w6) (backOf (W := W) hM K.z w4 w3 hf hl) qa qc (g := mkF m pc Ls (argsL.reverse ++ .ref a :: rest)) rfl (by rw [K.ml]; exact hsz) (Steps.refl _) (argsL := argsL) (rest := rest) hlen rfl (by show 2 * 0 + _ ≤ _; omega) (K.d hd) (fun _ _ => ⟨rfl, eT, hc, hs⟩)
  dsimp only [Pt.U, Pt.locs, Pt.cells, Pt.slots] at X1 l1 y1 z1 st hQ
  subst l1 y1 z1
  exact Go.tr st (k T1 v Lc X1 hQ)
theorem g_face {a : Addr} {C : String} {z' : MethodName} {cnt : Nat} (X : Stand p l e R s m args below meth c T locs cells slots) (K : Kt p Z s m meth c y bytes maxL ret) (w1 : (Jvm.Cond.methodLink y.cls index y').before a0 Z = true) (w2 : (Jvm.Cond.declares y').before a0 Z = true) (wf : (Jvm.Cond.interfaceMethod y'.cls y'.cls y'.name y'.desc).before args s = true) (w5 : (Jvm.Cond.selects C y' z').before a0 Z = true) (w6 : (Jvm.Cond.instanceMethod z').before a0 Z = true) (wp : (Jvm.Cond.publicMethod z').before a0 Z = true) (wu : (Jvm.Cond.unhidden C y'.name y'.desc).before a0 Z = true) (wca : (Jvm.Cond.castable C y'.cls).before a0 Z = true) (w3 : (Jvm.Cond.initialized z'.cls).before a0 Z = true) (w4 : (Jvm.Cond.code z' bytes' maxL' ret').before a0 Z = true) (hy : y'.cls ≠ "java/lang/invoke/MethodHandle" ∧ y'.cls ≠ "java/lang/invoke/VarHandle")
    (hM : Mt l Z z' bytes' maxL' ret' [] rm as' h Q') (eT : T.heap = h) (E : Exa Z h a C) (hsz : Ls.size = maxL) (hlen : ∀ sig, parseMethodDescriptor y'.desc = some sig → argsL.length = sig.parameters.length) (hst : S = argsL.reverse ++ .ref a :: rest) (has : (Value.ref a :: argsL).toArray = as') (hW : (rest.map fun v => v.category).sum ≤ W) (hd : decode bytes pc = .ok (.invokeinterface index cnt, 5))
    (hf : rm.frames + 1 ≤ R.frames) (hl : W + (maxL' + 11) + rm.locals ≤ R.locals) (hc : cells + rm.cells ≤ R.cells) (hs : slots + rm.slots ≤ R.slots) (hq : pc + 5 = q)
    (k : ∀ T' v L, Stand p l e R s m args below meth c T' (locs ++ L) (cells + rm.cells) (slots + rm.slots) → Q' v T'.heap L → Go p e below P T' (mkF m q Ls (v.toList ++ rest))) : Go p e below P T (mkF m pc Ls S) := by
  subst hq has hst
  obtain ⟨cq, kq, qa, qb, qc⟩ := isOf K.z eT E
  obtain ⟨v, _, ⟨T1, L1, k1, n1⟩, -, X1, ⟨Lc, hQ, l1, y1, z1⟩, st⟩ := X.interfaceBack K.x (xi := y') (y := z') K.own (mvT K.z w1) (mvT K.z w2) wf (mvT K.z w5) (mvT K.z w6) (mvT K.z wp) (mvT K.z wu) (mvT K.z wca) hy (backOf (W := W) hM K.z w4 w3 hf hl) qa qb qc (g := mkF m pc Ls (argsL.reverse ++ .ref a :: rest)) rfl (by rw [K.ml]; exact hsz) (Steps.refl _) (argsL := argsL) (rest := rest) hlen rfl (by show 2 * 0 + _ ≤ _; omega) (K.d hd) (fun _ _ => ⟨rfl, eT, hc, hs⟩)
  dsimp only [Pt.U, Pt.locs, Pt.cells, Pt.slots] at X1 l1 y1 z1 st hQ
  subst l1 y1 z1
  exact Go.tr st (k T1 v Lc X1 hQ)
theorem nf_self {C : String} (K : Kt p Z s m meth c y bytes maxL ret) (w : (Jvm.Cond.selects C y' y').before a0 Z = true) : NotFace s y' := notFace_of_selects (args := #[]) (mvT K.z w)
end Heap
end Own
section Start
variable {Z : State} {a0 : Array Value} {t u : Jvm.Term} {n : Int32} {a : Addr} {ty : FieldType} {vs : List Value} {dv v : Value}
def adOf (C n d : String) (Z : State) (a0 : Array Value) : Addr := match (Jvm.Term.static C n d).eval a0 Z none [] Z with | some (.ref a) => a | _ => 0
theorem own_ad {C n d : String} (h : ∃ x, (Jvm.Term.static C n d).eval a0 Z none [] Z = some (.ref x)) : (Jvm.Term.static C n d).eval a0 Z none [] Z = some (.ref (adOf C n d Z a0)) := by
  obtain ⟨x, hx⟩ := h; simp only [adOf, hx]
theorem own_eqint (h : (Jvm.Cond.eq t (.int n)).value a0 Z none Z [] = some true) : t.eval a0 Z none [] Z = some (.int n) := by
  obtain ⟨x, y, h1, h2, h3, -⟩ := cmp_v (Or.inl h)
  cases h2
  cases x <;> first | (simp [Kin, Value.isRef] at h3; done) | skip
  rw [h1]
  have q := gotT (Cond.eq_ints h1 rfl) h
  rw [q]
theorem own_eqref (h : (Jvm.Cond.eq t u).value a0 Z none Z [] = some true) (hu : u.eval a0 Z none [] Z = some (.ref a)) : t.eval a0 Z none [] Z = some (.ref a) := by
  obtain ⟨x, y, h1, h2, h3, h4⟩ := cmp_v (Or.inl h)
  cases h2.symm.trans hu
  have hx : x.isRef = true := by cases x <;> first | rfl | exact h3.1 | (simp [Kin] at h3; done)
  have q := gotT (eq_R h1 hu hx rfl) h
  rw [h1, q]
def kaOf (Z : State) (a : Addr) : ClassId := match Z.heap[a]? with | some c => c.cls | none => 0
theorem own_len (h : (Jvm.Term.length t).eval a0 Z none [] Z = some (.int n)) (ht : t.eval a0 Z none [] Z = some (.ref a)) : ∃ cl : Cell, Z.heap[a]? = some cl ∧ cl.slots.size < 2 ^ 31 ∧ cl.slots.size.toInt32 = n := by
  obtain ⟨a', cl, h1, h2, h3⟩ := Term.length_spec h
  cases ht.symm.trans h1
  refine ⟨cl, (State.arrayAt?_spec h2).1, ?_, by cases h3; rfl⟩
  by_cases q : cl.slots.size < 2147483648
  · exact q
  · simp [Term.eval, ht, h2, q] at h
theorem own_arv (hf : Fit Z) (ht : t.eval a0 Z none [] Z = some (.ref a)) (ha : (Jvm.Cond.arrayOf t ty).value a0 Z none Z [] = some true) (hl : (Jvm.Cond.eq (Jvm.Term.length t) (.int n)).value a0 Z none Z [] = some true) (hn : ¬ n < 0) (hv : n.toNatClampNeg = vs.length) (he : ∀ cl : Cell, Z.heap[a]? = some cl → HasL cl 0 vs) : Arv Z Z.heap a (kaOf Z a) ty n vs dv := by
  obtain ⟨cl, A⟩ := Arr.start ht ha
  obtain ⟨cl', h1, h2, h3⟩ := own_len (own_eqint hl) ht
  cases A.1.symm.trans h1
  have e : kaOf Z a = cl.cls := by simp only [kaOf, A.1]
  rw [e]
  exact Arv.start hf A h2 h3 hn hv (he cl A.1)
theorem own_el {j : Int32} {i : Nat} {cl : Cell} (h : (Jvm.Term.elem t (.int j)).eval a0 Z none [] Z = some v) (ht : t.eval a0 Z none [] Z = some (.ref a)) (hc : Z.heap[a]? = some cl) (hi : j.toNatClampNeg = i) : cl.slots[i]? = some v := by
  subst hi; exact (elem_in h ht (Term.int_eval j) hc).2
theorem own_lit {z k : Int32} {i : Int} (h : z.toInt = i) (hk : k.toInt = i) : z = k := Int32.toInt_inj.mp (h.trans hk.symm)
theorem own_max (x : Int32) : 0 ≤ (x &&& 2147483647).toInt := (c_andS x 2147483647).2.2 (by decide)
theorem own_rem (x : Int32) {n : Int32} {k : Int} (hk : n.toInt = k) (h0 : 0 < k) : 0 ≤ ((x &&& 2147483647) % n).toInt ∧ ((x &&& 2147483647) % n).toInt < k := by
  rw [(c_irem (x &&& 2147483647) n k hk).1 (own_max x)]
  exact ⟨Int.emod_nonneg _ (by omega), Int.emod_lt_of_pos _ h0⟩
variable {x k : Int32} {m : Int}
theorem own_ltI (hk : k.toInt = m) (h : x.toInt < m) : x < k := by rw [Int32.lt_iff_toInt_lt, hk]; exact h
theorem own_nltI (hk : k.toInt = m) (h : ¬ x.toInt < m) : ¬ (x < k) := by rw [Int32.lt_iff_toInt_lt, hk]; exact h
theorem own_gtI (hk : k.toInt = m) (h : m < x.toInt) : k < x := by rw [Int32.lt_iff_toInt_lt, hk]; exact h
theorem own_ngtI (hk : k.toInt = m) (h : ¬ m < x.toInt) : ¬ (k < x) := by rw [Int32.lt_iff_toInt_lt, hk]; exact h
theorem own_eqI (hk : k.toInt = m) (h : x.toInt = m) : x = k := own_lit h hk
theorem own_neI (hk : k.toInt = m) (h : x.toInt ≠ m) : ¬ (x = k) := fun q => h (by rw [q]; exact hk)
theorem own_ltE (hk : k.toInt = m) (h : x < k) : x.toInt < m := by rw [Int32.lt_iff_toInt_lt, hk] at h; exact h
theorem own_nltE (hk : k.toInt = m) (h : ¬ (x < k)) : ¬ x.toInt < m := by rw [Int32.lt_iff_toInt_lt, hk] at h; exact h
theorem own_gtE (hk : k.toInt = m) (h : k < x) : m < x.toInt := by rw [Int32.lt_iff_toInt_lt, hk] at h; exact h
theorem own_ngtE (hk : k.toInt = m) (h : ¬ (k < x)) : ¬ m < x.toInt := by rw [Int32.lt_iff_toInt_lt, hk] at h; exact h
theorem own_eqE (hk : k.toInt = m) (h : x = k) : x.toInt = m := by rw [h]; exact hk
theorem own_neE (hk : k.toInt = m) (h : ¬ (x = k)) : x.toInt ≠ m := fun q => h (own_lit q hk)
theorem own_some {a b : Int32} (h : a = b) : some (Value.int a) = some (Value.int b) := by rw [h]
theorem own_if1 {P : Prop} [Decidable P] (h : P) : (1 : Int32) = if P then 1 else 0 := (if_pos h).symm
theorem own_if0 {P : Prop} [Decidable P] (h : ¬ P) : (0 : Int32) = if P then 1 else 0 := (if_neg h).symm
theorem own_nar {P : Prop} [Decidable P] : nar .boolean (if P then (1 : Int32) else 0) = if P then 1 else 0 := by split <;> rfl
end Start
section Bs
def upd (f : Nat → Int32) (i : Nat) (v : Int32) : Nat → Int32 := fun j => if j = i then v else f j
theorem upd_eq (f : Nat → Int32) (i : Nat) (v : Int32) : upd f i v i = v := if_pos rfl
theorem upd_ne (f : Nat → Int32) {i j : Nat} (v : Int32) (h : j ≠ i) : upd f i v j = f j := if_neg h
section Arf
variable {Z : State} {h h' : Heap} {a b : Addr} {k : ClassId} {ty : FieldType} {n : Int32} {f : Nat → Int32} {sl : Nat} {v : Value} {ws : List Addr}
/-- an array of ints or bytes, its components told by a function -/
def Arf (Z : State) (h : Heap) (a : Addr) (k : ClassId) (ty : FieldType) (n : Int32) (f : Nat → Int32) : Prop := ∃ vs, Arv Z h a k ty n vs (.int 0) ∧ n.toNatClampNeg ≤ vs.length ∧ ∀ i, i < n.toNatClampNeg → vs.getD i (.int 0) = .int (f i)
theorem Arf.lt (A : Arf Z h a k ty n f) : a < h.size := by obtain ⟨vs, A, -⟩ := A; exact A.lt
theorem Arf.ext (A : Arf Z h a k ty n f) (E : Ext h h') : Arf Z h' a k ty n f := by obtain ⟨vs, A, r⟩ := A; exact ⟨vs, A.ext E, r⟩
theorem Arf.other (A : Arf Z h b k ty n f) (W : Wr h h' a sl v) (q : b ≠ a) : Arf Z h' b k ty n f := by obtain ⟨vs, A, r⟩ := A; exact ⟨vs, A.other W q, r⟩
theorem Arf.keep (A : Arf Z h a k ty n f) (K : Keep h h' ws) (q : a ∉ ws) : Arf Z h' a k ty n f := by obtain ⟨vs, A, r⟩ := A; exact ⟨vs, A.keep K q, r⟩
theorem nat_lt {j n : Int32} (hj : ¬ j < 0 ∧ j < n) : j.toNatClampNeg < n.toNatClampNeg := by
  obtain ⟨h1, h2⟩ := hj
  rw [Int32.lt_iff_toInt_lt] at h1 h2
  have : (0 : Int32).toInt = 0 := rfl
  simp only [Int32.toNatClampNeg]; omega
theorem Arf.set {j z : Int32} (A : Arf Z h a k ty n f) (hj : ¬ j < 0 ∧ j < n) (hf : fits ty (.int z) = true) (W : Wr h h' a j.toNatClampNeg (.int z)) : Arf Z h' a k ty n (upd f j.toNatClampNeg z) := by
  obtain ⟨vs, A, hl, hv⟩ := A
  have hlt := Nat.lt_of_lt_of_le (nat_lt hj) hl
  refine ⟨_, arv_set A hf W hlt rfl, by simpa using hl, fun i hi => ?_⟩
  by_cases q : i = j.toNatClampNeg
  · subst q; rw [upd_eq]; simp [hlt]
  · rw [upd_ne _ _ q, ← hv i hi]; simp only [List.getD_eq_getElem?_getD]; rw [List.getElem?_set_ne (Ne.symm q)]
theorem Arf.of_rep {m : Nat} (A : Arv Z h a k ty n (List.replicate m (.int 0)) (.int 0)) (hm : n.toNatClampNeg ≤ m) : Arf Z h a k ty n (fun _ => 0) := ⟨_, A, by simpa using hm, fun i hi => by
  simp only [List.getD_eq_getElem?_getD, List.getElem?_replicate]; split <;> rfl⟩
end Arf
section Steps
variable {p : Program} {l : Launch} {e : Env} {R : Room} {s : State} {m : MethodId} {args : Array Value} {below : List Frame} {meth : Method} {c : Code} {T T' : State} {locs : List Loc} {cells slots : Nat} {Z : State} {a0 : Array Value} {h : Heap} {P : State → Prop} {pc q : Nat} {Ls : Array Slot} {S : List Value} {y : MethodName} {bytes : ByteArray} {maxL : Nat} {ret : Option FieldType} {a : Addr} {kA : ClassId} {n j x z : Int32} {f : Nat → Int32} {ty : FieldType}
theorem g_lenF (X : Stand p l e R s m args below meth c T locs cells slots) (K : Kt p Z s m meth c y bytes maxL ret) (eT : T.heap = h) (A : Arf Z h a kA ty n f) (hd : decode bytes pc = .ok (.arraylength, 1)) (hq : pc + 1 = q) (k : Go p e below P T (mkF m q Ls (.int n :: S))) : Go p e below P T (mkF m pc Ls (.ref a :: S)) := by
  obtain ⟨vs, A, -⟩ := A; exact g_len X K eT A hd hq k
theorem g_ialF (X : Stand p l e R s m args below meth c T locs cells slots) (K : Kt p Z s m meth c y bytes maxL ret) (eT : T.heap = h) (A : Arf Z h a kA .int n f) (hj : ¬ j < 0 ∧ j < n) (hz : f j.toNatClampNeg = z) (hd : decode bytes pc = .ok (.iaload, 1)) (hq : pc + 1 = q) (k : Go p e below P T (mkF m q Ls (.int z :: S))) : Go p e below P T (mkF m pc Ls (.int j :: .ref a :: S)) := by
  obtain ⟨vs, A, -, hv⟩ := A; exact g_iald X K eT A hj ((hv _ (nat_lt hj)).trans (by rw [hz])) hd hq k
theorem g_balF (X : Stand p l e R s m args below meth c T locs cells slots) (K : Kt p Z s m meth c y bytes maxL ret) (eT : T.heap = h) (A : Arf Z h a kA .byte n f) (hj : ¬ j < 0 ∧ j < n) (hz : f j.toNatClampNeg = z) (hd : decode bytes pc = .ok (.baload, 1)) (hq : pc + 1 = q) (k : Go p e below P T (mkF m q Ls (.int z :: S))) : Go p e below P T (mkF m pc Ls (.int j :: .ref a :: S)) := by
  obtain ⟨vs, A, -, hv⟩ := A; exact g_bald X K eT A hj ((hv _ (nat_lt hj)).trans (by rw [hz])) hd hq k
theorem g_iasF (X : Stand p l e R s m args below meth c T locs cells slots) (K : Kt p Z s m meth c y bytes maxL ret) (eT : T.heap = h) (A : Arf Z h a kA .int n f) (hj : ¬ j < 0 ∧ j < n) (hd : decode bytes pc = .ok (.iastore, 1)) (hq : pc + 1 = q)
    (k : ∀ T' h', Stand p l e R s m args below meth c T' (locs ++ [⟨a, j.toNatClampNeg⟩]) cells slots → T'.heap = h' → Wr h h' a j.toNatClampNeg (.int x) → Go p e below P T' (mkF m q Ls S)) : Go p e below P T (mkF m pc Ls (.int x :: .int j :: .ref a :: S)) := by
  obtain ⟨vs, A, hl, -⟩ := A; exact g_iast X K eT A hj (Nat.lt_of_lt_of_le (nat_lt hj) hl) rfl hd hq fun T' h' X' e' W' _ => k T' h' X' e' W'
theorem g_basF (X : Stand p l e R s m args below meth c T locs cells slots) (K : Kt p Z s m meth c y bytes maxL ret) (eT : T.heap = h) (A : Arf Z h a kA .byte n f) (hj : ¬ j < 0 ∧ j < n) (hz : nar .byte x = z) (hd : decode bytes pc = .ok (.bastore, 1)) (hq : pc + 1 = q)
    (k : ∀ T' h', Stand p l e R s m args below meth c T' (locs ++ [⟨a, j.toNatClampNeg⟩]) cells slots → T'.heap = h' → Wr h h' a j.toNatClampNeg (.int z) → Go p e below P T' (mkF m q Ls S)) : Go p e below P T (mkF m pc Ls (.int x :: .int j :: .ref a :: S)) := by
  obtain ⟨vs, A, hl, -⟩ := A; exact g_bast X K eT A hj (Nat.lt_of_lt_of_le (nat_lt hj) hl) hz rfl hd hq fun T' h' X' e' W' _ => k T' h' X' e' W'
end Steps
abbrev BS : String := "com/example/stets/stets/automaton/BranchSets"
/-- where the parts lie: no two in one place -/
def Ds (b fa ta ma sa : Addr) (N : Nat) : Prop := b ≠ fa ∧ b ≠ ta ∧ b ≠ ma ∧ b ≠ sa ∧ fa ≠ ta ∧ fa ≠ ma ∧ fa ≠ sa ∧ ta ≠ ma ∧ ta ≠ sa ∧ ma ≠ sa ∧ ∀ j, j < N → b ≠ ma + 1 + j ∧ fa ≠ ma + 1 + j ∧ ta ≠ ma + 1 + j ∧ sa ≠ ma + 1 + j ∧ ma ≠ ma + 1 + j
def LB (Z : State) (a0 : Array Value) : Prop := Laid Z a0 BS BS "flags" "[B" ∧ Laid Z a0 BS BS "trail" "[B" ∧ Laid Z a0 BS BS "members" "[[I" ∧ Laid Z a0 BS BS "sizes" "[I" ∧ Laid Z a0 BS BS "trailSize" "I"
def HB (Z : State) (h : Heap) (b fa ta ma sa : Addr) (kf kt km ki ks : ClassId) (cnt fn ts : Int32) (fl tr sz : Nat → Int32) (mf : Nat → Nat → Int32) : Prop :=
  Exa Z h b BS ∧ Fld Z h b BS "flags" "[B" (.ref fa) ∧ Fld Z h b BS "trail" "[B" (.ref ta) ∧ Fld Z h b BS "members" "[[I" (.ref ma) ∧ Fld Z h b BS "sizes" "[I" (.ref sa) ∧ Fld Z h b BS "trailSize" "I" (.int ts) ∧
  Arf Z h fa kf .byte fn fl ∧ Arf Z h ta kt .byte 64 tr ∧ Arv Z h ma km (.array .int) cnt ((List.range cnt.toNatClampNeg).map fun j => Value.ref (ma + 1 + j)) .null ∧ (∀ j, j < cnt.toNatClampNeg → Arf Z h (ma + 1 + j) ki .int 16 (mf j)) ∧ Arf Z h sa ks .int cnt sz ∧
  Ds b fa ta ma sa cnt.toNatClampNeg ∧ Z.heap.size ≤ b ∧ Z.heap.size ≤ fa ∧ Z.heap.size ≤ ta ∧ Z.heap.size ≤ ma ∧ Z.heap.size ≤ sa
section HBs
variable {Z : State} {a0 : Array Value} {h h' : Heap} {b fa ta ma sa : Addr} {kf kt km ki ks : ClassId} {cnt fn ts : Int32} {fl tr sz : Nat → Int32} {mf : Nat → Nat → Int32}
theorem HB.exa (B : HB Z h b fa ta ma sa kf kt km ki ks cnt fn ts fl tr sz mf) : Exa Z h b BS := B.1
theorem HB.keep (B : HB Z h b fa ta ma sa kf kt km ki ks cnt fn ts fl tr sz mf) (K : Keep h h' []) : HB Z h' b fa ta ma sa kf kt km ki ks cnt fn ts fl tr sz mf := by
  obtain ⟨h1, h2, h3, h4, h5, h6, h7, h8, h9, h10, h11, r⟩ := B
  exact ⟨h1.keep K, h2.keep K nin0, h3.keep K nin0, h4.keep K nin0, h5.keep K nin0, h6.keep K nin0, h7.keep K nin0, h8.keep K nin0, h9.keep K nin0, fun j hj => (h10 j hj).keep K nin0, h11.keep K nin0, r⟩
theorem HB.wF {j z : Int32} (B : HB Z h b fa ta ma sa kf kt km ki ks cnt fn ts fl tr sz mf) (hj : ¬ j < 0 ∧ j < fn) (hf : fits .byte (.int z) = true) (W : Wr h h' fa j.toNatClampNeg (.int z)) : HB Z h' b fa ta ma sa kf kt km ki ks cnt fn ts (upd fl j.toNatClampNeg z) tr sz mf := by
  obtain ⟨h1, h2, h3, h4, h5, h6, h7, h8, h9, h10, h11, d, r⟩ := B
  obtain ⟨d1, d2, d3, d4, d5, d6, d7, d8, d9, d10, dj⟩ := id d
  exact ⟨h1.wr W, h2.other W (Or.inl d1), h3.other W (Or.inl d1), h4.other W (Or.inl d1), h5.other W (Or.inl d1), h6.other W (Or.inl d1), h7.set hj hf W, h8.other W (Ne.symm d5), h9.other W (Ne.symm d6), fun i hi => (h10 i hi).other W (Ne.symm (dj i hi).2.1), h11.other W (Ne.symm d7), d, r⟩
theorem HB.wT {j z : Int32} (B : HB Z h b fa ta ma sa kf kt km ki ks cnt fn ts fl tr sz mf) (hj : ¬ j < 0 ∧ j < (64 : Int32)) (hf : fits .byte (.int z) = true) (W : Wr h h' ta j.toNatClampNeg (.int z)) : HB Z h' b fa ta ma sa kf kt km ki ks cnt fn ts fl (upd tr j.toNatClampNeg z) sz mf := by
  obtain ⟨h1, h2, h3, h4, h5, h6, h7, h8, h9, h10, h11, d, r⟩ := B
  obtain ⟨d1, d2, d3, d4, d5, d6, d7, d8, d9, d10, dj⟩ := id d
  exact ⟨h1.wr W, h2.other W (Or.inl d2), h3.other W (Or.inl d2), h4.other W (Or.inl d2), h5.other W (Or.inl d2), h6.other W (Or.inl d2), h7.other W d5, h8.set hj hf W, h9.other W (Ne.symm d8), fun i hi => (h10 i hi).other W (Ne.symm (dj i hi).2.2.1), h11.other W (Ne.symm d9), d, r⟩
theorem HB.wS {j z : Int32} (B : HB Z h b fa ta ma sa kf kt km ki ks cnt fn ts fl tr sz mf) (hj : ¬ j < 0 ∧ j < cnt) (W : Wr h h' sa j.toNatClampNeg (.int z)) : HB Z h' b fa ta ma sa kf kt km ki ks cnt fn ts fl tr (upd sz j.toNatClampNeg z) mf := by
  obtain ⟨h1, h2, h3, h4, h5, h6, h7, h8, h9, h10, h11, d, r⟩ := B
  obtain ⟨d1, d2, d3, d4, d5, d6, d7, d8, d9, d10, dj⟩ := id d
  exact ⟨h1.wr W, h2.other W (Or.inl d4), h3.other W (Or.inl d4), h4.other W (Or.inl d4), h5.other W (Or.inl d4), h6.other W (Or.inl d4), h7.other W d7, h8.other W d9, h9.other W d10, fun i hi => (h10 i hi).other W (Ne.symm (dj i hi).2.2.2.1), h11.set hj rfl W, d, r⟩
def upd2 (mf : Nat → Nat → Int32) (i k : Nat) (v : Int32) : Nat → Nat → Int32 := fun j => if j = i then upd (mf i) k v else mf j
theorem HB.wM {i : Nat} {j z : Int32} (B : HB Z h b fa ta ma sa kf kt km ki ks cnt fn ts fl tr sz mf) (hi : i < cnt.toNatClampNeg) (hj : ¬ j < 0 ∧ j < (16 : Int32)) (W : Wr h h' (ma + 1 + i) j.toNatClampNeg (.int z)) : HB Z h' b fa ta ma sa kf kt km ki ks cnt fn ts fl tr sz (upd2 mf i j.toNatClampNeg z) := by
  obtain ⟨h1, h2, h3, h4, h5, h6, h7, h8, h9, h10, h11, d, r⟩ := B
  obtain ⟨d1, d2, d3, d4, d5, d6, d7, d8, d9, d10, dj⟩ := id d
  obtain ⟨e1, e2, e3, e4, e5⟩ := dj i hi
  refine ⟨h1.wr W, h2.other W (Or.inl e1), h3.other W (Or.inl e1), h4.other W (Or.inl e1), h5.other W (Or.inl e1), h6.other W (Or.inl e1), h7.other W e2, h8.other W e3, h9.other W e5, fun k hk => ?_, h11.other W e4, d, r⟩
  by_cases q : k = i
  · subst q; simp only [upd2, if_pos]; exact (h10 k hk).set hj rfl W
  · simp only [upd2, if_neg q]; exact (h10 k hk).other W (fun u => q (Nat.add_left_cancel u))
theorem HB.wTs {v : Int32} (L : LB Z a0) (B : HB Z h b fa ta ma sa kf kt km ki ks cnt fn ts fl tr sz mf) (W : Wr h h' b (Jvm.RoadKit.slotOf Z BS "trailSize" "I") (.int v)) : HB Z h' b fa ta ma sa kf kt km ki ks cnt fn v fl tr sz mf := by
  obtain ⟨h1, h2, h3, h4, h5, h6, h7, h8, h9, h10, h11, d, r⟩ := B
  obtain ⟨d1, d2, d3, d4, d5, d6, d7, d8, d9, d10, dj⟩ := id d
  obtain ⟨l1, l2, l3, l4, l5⟩ := L
  exact ⟨h1.wr W, h2.other W (Or.inr (slot_ne l1 l5 (by decide) (t := .array .byte) (t' := .int) (by decide) (by decide))), h3.other W (Or.inr (slot_ne l2 l5 (by decide) (t := .array .byte) (t' := .int) (by decide) (by decide))), h4.other W (Or.inr (slot_ne l3 l5 (by decide) (t := .array (.array .int)) (t' := .int) (by decide) (by decide))), h5.other W (Or.inr (slot_ne l4 l5 (by decide) (t := .array .int) (t' := .int) (by decide) (by decide))), h6.same W, h7.other W (Ne.symm d1), h8.other W (Ne.symm d2), h9.other W (Ne.symm d3), fun i hi => (h10 i hi).other W (Ne.symm (dj i hi).1), h11.other W (Ne.symm d4), d, r⟩
theorem HB.wFp {fb : Addr} {kb : ClassId} {n' : Int32} {g : Nat → Int32} (L : LB Z a0) (B : HB Z h b fa ta ma sa kf kt km ki ks cnt fn ts fl tr sz mf) (A : Arf Z h fb kb .byte n' g) (gz : Z.heap.size ≤ fb) (hb : b < fb) (ht : ta < fb) (hm : ma < fb) (hi : ∀ i, i < cnt.toNatClampNeg → ma + 1 + i < fb) (hs : sa < fb) (W : Wr h h' b (Jvm.RoadKit.slotOf Z BS "flags" "[B") (.ref fb)) : HB Z h' b fb ta ma sa kb kt km ki ks cnt n' ts g tr sz mf := by
  obtain ⟨h1, h2, h3, h4, h5, h6, h7, h8, h9, h10, h11, d, r1, r2, r3⟩ := B
  obtain ⟨d1, d2, d3, d4, d5, d6, d7, d8, d9, d10, dj⟩ := id d
  obtain ⟨l1, l2, l3, l4, l5⟩ := L
  exact ⟨h1.wr W, h2.same W, h3.other W (Or.inr (slot_ne l2 l1 (by decide) (t := .array .byte) (t' := .array .byte) (by decide) (by decide))), h4.other W (Or.inr (slot_ne l3 l1 (by decide) (t := .array (.array .int)) (t' := .array .byte) (by decide) (by decide))), h5.other W (Or.inr (slot_ne l4 l1 (by decide) (t := .array .int) (t' := .array .byte) (by decide) (by decide))), h6.other W (Or.inr (slot_ne l5 l1 (by decide) (t := .int) (t' := .array .byte) (by decide) (by decide))), A.other W (Nat.ne_of_gt hb), h8.other W (Ne.symm d2), h9.other W (Ne.symm d3), fun i hi => (h10 i hi).other W (Ne.symm (dj i hi).1), h11.other W (Ne.symm d4), ⟨Nat.ne_of_lt hb, d2, d3, d4, Nat.ne_of_gt ht, Nat.ne_of_gt hm, Nat.ne_of_gt hs, d8, d9, d10, fun j hj => ⟨(dj j hj).1, Nat.ne_of_gt (hi j hj), (dj j hj).2.2⟩⟩, r1, gz, r3⟩
end HBs
end Bs
section Bits
def bt (x s : Int32) : Bool := x.toBitVec.getLsbD s.toNatClampNeg
theorem bt_two {x c : Int32} {k : Nat} (hk : k < 32) (hc : c.toBitVec = BitVec.twoPow 32 k) : x &&& c = 0 ↔ x.toBitVec.getLsbD k = false := by
  rw [← Int32.toBitVec_inj, Int32.toBitVec_and, hc, BitVec.and_twoPow]
  cases hq : x.toBitVec.getLsbD k
  · simp
  · simp only [if_pos, Bool.true_eq_false, iff_false]
    intro h
    have e := congrArg (fun z => z.getLsbD k) h
    have z0 : ((0 : Int32).toBitVec).getLsbD k = false := by
      have : (0 : Int32).toBitVec = 0#32 := rfl
      rw [this]; simp
    simp [BitVec.getLsbD_twoPow, hk, z0] at e
theorem eight {s : Int32} (h0 : 0 ≤ s.toInt) (h8 : s.toInt < 8) : s = 0 ∨ s = 1 ∨ s = 2 ∨ s = 3 ∨ s = 4 ∨ s = 5 ∨ s = 6 ∨ s = 7 := by
  have q : s.toInt = 0 ∨ s.toInt = 1 ∨ s.toInt = 2 ∨ s.toInt = 3 ∨ s.toInt = 4 ∨ s.toInt = 5 ∨ s.toInt = 6 ∨ s.toInt = 7 := by omega
  rcases q with q | q | q | q | q | q | q | q
  · exact Or.inl (own_lit q (by decide))
  · exact Or.inr (Or.inl (own_lit q (by decide)))
  · exact Or.inr (Or.inr (Or.inl (own_lit q (by decide))))
  · exact Or.inr (Or.inr (Or.inr (Or.inl (own_lit q (by decide)))))
  · exact Or.inr (Or.inr (Or.inr (Or.inr (Or.inl (own_lit q (by decide))))))
  · exact Or.inr (Or.inr (Or.inr (Or.inr (Or.inr (Or.inl (own_lit q (by decide)))))))
  · exact Or.inr (Or.inr (Or.inr (Or.inr (Or.inr (Or.inr (Or.inl (own_lit q (by decide))))))))
  · exact Or.inr (Or.inr (Or.inr (Or.inr (Or.inr (Or.inr (Or.inr (own_lit q (by decide))))))))
theorem bt_and0 {x s : Int32} (h0 : 0 ≤ s.toInt) (h8 : s.toInt < 8) : x &&& ((1 : Int32) <<< (s &&& 31)) = 0 ↔ bt x s = false := by
  rcases eight h0 h8 with rfl | rfl | rfl | rfl | rfl | rfl | rfl | rfl
  all_goals exact bt_two (by decide) (by decide)
theorem bt_or (x y t : Int32) : bt (x ||| y) t = (bt x t || bt y t) := by simp only [bt, Int32.toBitVec_or, BitVec.getLsbD_or]
theorem bt_an (x y t : Int32) : bt (x &&& y) t = (bt x t && bt y t) := by simp only [bt, Int32.toBitVec_and, BitVec.getLsbD_and]
theorem bt_i2b {t : Int32} (x : Int32) (h0 : 0 ≤ t.toInt) (h8 : t.toInt < 8) : bt x.toInt8.toInt32 t = bt x t := by
  have ht : t.toNatClampNeg < 8 := by simp only [Int32.toNatClampNeg]; omega
  simp only [bt, Int8.toBitVec_toInt32, Int32.toBitVec_toInt8, BitVec.getLsbD_signExtend, BitVec.getLsbD_setWidth]
  have h32 : t.toNatClampNeg < 32 := by omega
  simp [ht, h32]
theorem bt_shl {s t : Int32} (h0 : 0 ≤ s.toInt) (h8 : s.toInt < 8) (g0 : 0 ≤ t.toInt) (g8 : t.toInt < 8) : bt ((1 : Int32) <<< (s &&& 31)) t = decide (t = s) := by
  rcases eight h0 h8 with rfl | rfl | rfl | rfl | rfl | rfl | rfl | rfl <;> rcases eight g0 g8 with rfl | rfl | rfl | rfl | rfl | rfl | rfl | rfl <;> decide
theorem bt_inv {s t : Int32} (h0 : 0 ≤ s.toInt) (h8 : s.toInt < 8) (g0 : 0 ≤ t.toInt) (g8 : t.toInt < 8) : bt (((1 : Int32) <<< (s &&& 31)) ^^^ (-1 : Int32)) t = !decide (t = s) := by
  rcases eight h0 h8 with rfl | rfl | rfl | rfl | rfl | rfl | rfl | rfl <;> rcases eight g0 g8 with rfl | rfl | rfl | rfl | rfl | rfl | rfl | rfl <;> decide
def addB (x s : Int32) : Int32 := ((x ||| ((1 : Int32) <<< (s &&& 31)).toInt8.toInt32).toInt8.toInt32).toInt8.toInt32
def delB (x s : Int32) : Int32 := ((x &&& (((1 : Int32) <<< (s &&& 31)) ^^^ (-1 : Int32)).toInt8.toInt32).toInt8.toInt32).toInt8.toInt32
theorem bt_add {x s t : Int32} (h0 : 0 ≤ s.toInt) (h8 : s.toInt < 8) (g0 : 0 ≤ t.toInt) (g8 : t.toInt < 8) : bt (addB x s) t = (bt x t || decide (t = s)) := by
  rw [addB, bt_i2b _ g0 g8, bt_i2b _ g0 g8, bt_or, bt_i2b _ g0 g8, bt_shl h0 h8 g0 g8]
theorem bt_del {x s t : Int32} (h0 : 0 ≤ s.toInt) (h8 : s.toInt < 8) (g0 : 0 ≤ t.toInt) (g8 : t.toInt < 8) : bt (delB x s) t = (bt x t && !decide (t = s)) := by
  rw [delB, bt_i2b _ g0 g8, bt_i2b _ g0 g8, bt_an, bt_i2b _ g0 g8, bt_inv h0 h8 g0 g8]
end Bits
section Pure
abbrev Stk := List (Int32 × Int32)
def cntS (st : Stk) (s : Int32) : Nat := (st.filter fun x => decide (x.1 = s)).length
def TM (tr : Nat → Int32) (mf : Nat → Nat → Int32) : Stk → Prop
  | [] => True
  | x :: r => tr r.length = x.1 ∧ mf x.1.toNatClampNeg (cntS r x.1) = x.2 ∧ TM tr mf r
def PI (cnt fn : Int32) (fl tr sz : Nat → Int32) (mf : Nat → Nat → Int32) (st : Stk) : Prop :=
  (∀ x ∈ st, 0 ≤ x.1.toInt ∧ x.1.toInt < cnt.toInt ∧ 0 ≤ x.2.toInt ∧ x.2.toInt < fn.toInt) ∧
  (∀ s f : Int32, 0 ≤ s.toInt → s.toInt < 8 → 0 ≤ f.toInt → f.toInt < fn.toInt → (bt (fl f.toNatClampNeg) s = true ↔ (s, f) ∈ st)) ∧
  (∀ s : Int32, 0 ≤ s.toInt → s.toInt < cnt.toInt → sz s.toNatClampNeg = Int32.ofNat (cntS st s)) ∧
  TM tr mf st ∧ st.Nodup
variable {cnt fn : Int32} {fl tr sz : Nat → Int32} {mf : Nat → Nat → Int32} {st : Stk} {s f : Int32}
theorem clampInj {a b : Int32} (ha : 0 ≤ a.toInt) (hb : 0 ≤ b.toInt) (h : a.toNatClampNeg = b.toNatClampNeg) : a = b := by
  apply Int32.toInt_inj.mp; simp only [Int32.toNatClampNeg] at h; omega
theorem cnt_cons (x : Int32 × Int32) (r : Stk) (s : Int32) : cntS (x :: r) s = cntS r s + (if x.1 = s then 1 else 0) := by
  unfold cntS; by_cases q : x.1 = s
  · simp [q]
  · simp [q]
theorem cnt_le (r : Stk) (s : Int32) : cntS r s ≤ r.length := List.length_filter_le _ _
theorem TM.mono {tr' : Nat → Int32} {mf' : Nat → Nat → Int32} : ∀ {st : Stk}, TM tr mf st → (∀ k, k < st.length → tr' k = tr k) → (∀ x ∈ st, ∀ k, k < cntS st x.1 → mf' x.1.toNatClampNeg k = mf x.1.toNatClampNeg k) → TM tr' mf' st
  | [], _, _, _ => trivial
  | x :: r, ⟨h1, h2, h3⟩, a, b => by
    refine ⟨?_, ?_, ?_⟩
    · rw [a _ (Nat.lt_succ_self _)]; exact h1
    · rw [b x (List.mem_cons_self ..) _ (by rw [cnt_cons]; simp)]; exact h2
    · exact TM.mono h3 (fun k hk => a k (Nat.lt_succ_of_lt hk)) fun y hy k hk => b y (List.mem_cons_of_mem _ hy) k (by rw [cnt_cons]; exact Nat.lt_of_lt_of_le hk (Nat.le_add_right _ _))
theorem PI.nil : PI cnt 64 (fun _ => 0) tr (fun _ => 0) mf [] := by
  refine ⟨fun x hx => (nomatch hx), fun s f _ _ _ _ => ?_, fun s _ _ => rfl, trivial, List.nodup_nil⟩
  simp [bt]
theorem PI.not_big (P : PI cnt fn fl tr sz mf st) (h : fn.toInt ≤ f.toInt) : (s, f) ∉ st := fun q => by
  have := (P.1 _ q).2.2.2; simp only at this; omega
theorem PI.push {z : Int32} (P : PI cnt fn fl tr sz mf st) (hc : cnt.toInt ≤ 8) (h0 : 0 ≤ s.toInt) (h1 : s.toInt < cnt.toInt) (f0 : 0 ≤ f.toInt) (f1 : f.toInt < fn.toInt) (hm : (s, f) ∉ st) {i k : Nat} (hi : i = st.length) (hk : k = cntS st s) (hl : st.length ≤ 1000)
    (hz : z = addB (fl f.toNatClampNeg) s) : PI cnt fn (upd fl f.toNatClampNeg z) (upd tr i s) (upd sz s.toNatClampNeg (sz s.toNatClampNeg + 1)) (upd2 mf s.toNatClampNeg k f) ((s, f) :: st) := by
  obtain ⟨p1, p2, p3, p4, p5⟩ := P
  subst hi hk hz
  have h8 : s.toInt < 8 := by omega
  refine ⟨fun x hx => ?_, fun t g a b c d => ?_, fun t a b => ?_, ⟨upd_eq _ _ _, ?_, ?_⟩, List.nodup_cons.mpr ⟨hm, p5⟩⟩
  · rcases List.mem_cons.mp hx with rfl | hx
    · exact ⟨h0, h1, f0, f1⟩
    · exact p1 x hx
  · by_cases q : g = f
    · subst q
      rw [upd_eq, bt_add h0 h8 a b, Bool.or_eq_true, p2 t g a b c d, decide_eq_true_eq, List.mem_cons, Prod.mk.injEq]
      constructor
      · rintro (u | u)
        · exact Or.inr u
        · exact Or.inl ⟨u, rfl⟩
      · rintro (⟨u, -⟩ | u)
        · exact Or.inr u
        · exact Or.inl u
    · rw [upd_ne _ _ (fun u => q (clampInj c f0 u)), p2 t g a b c d, List.mem_cons, Prod.mk.injEq]
      constructor
      · exact Or.inr
      · rintro (⟨-, u⟩ | u)
        · exact absurd u q
        · exact u
  · by_cases q : t = s
    · subst q; rw [upd_eq, p3 t a b, cnt_cons, if_pos rfl, Int32.ofNat_add]; rfl
    · rw [upd_ne _ _ (fun u => q (clampInj a h0 u)), p3 t a b, cnt_cons, if_neg (Ne.symm q)]; rfl
  · show upd2 mf s.toNatClampNeg (cntS st s) f s.toNatClampNeg (cntS st s) = f
    simp only [upd2, if_pos]; exact upd_eq _ _ _
  · refine p4.mono (fun k hk => upd_ne _ _ (Nat.ne_of_lt hk)) fun x hx k hk => ?_
    by_cases q : x.1 = s
    · rw [q] at hk ⊢; simp only [upd2, if_pos]; exact upd_ne _ _ (Nat.ne_of_lt hk)
    · simp only [upd2, if_neg (fun u => q (clampInj (p1 x hx).1 h0 u))]
theorem PI.top (P : PI cnt fn fl tr sz mf ((s, f) :: st)) : tr st.length = s ∧ mf s.toNatClampNeg (cntS st s) = f ∧ sz s.toNatClampNeg = Int32.ofNat (cntS st s + 1) ∧ 0 ≤ s.toInt ∧ s.toInt < cnt.toInt ∧ 0 ≤ f.toInt ∧ f.toInt < fn.toInt := by
  obtain ⟨p1, p2, p3, ⟨t1, t2, -⟩, p5⟩ := P
  obtain ⟨a, b, c, d⟩ := p1 _ (List.mem_cons_self ..)
  exact ⟨t1, t2, by rw [p3 s a b, cnt_cons, if_pos rfl], a, b, c, d⟩
theorem PI.pop {z w : Int32} (P : PI cnt fn fl tr sz mf ((s, f) :: st)) (hc : cnt.toInt ≤ 8) (hz : z = delB (fl f.toNatClampNeg) s) (hw : w = Int32.ofNat (cntS st s)) : PI cnt fn (upd fl f.toNatClampNeg z) tr (upd sz s.toNatClampNeg w) mf st := by
  obtain ⟨-, -, -, h0, h1, f0, f1⟩ := P.top
  obtain ⟨p1, p2, p3, ⟨t1, t2, t3⟩, p5⟩ := P
  subst hz hw
  have h8 : s.toInt < 8 := by omega
  obtain ⟨n1, n2⟩ := List.nodup_cons.mp p5
  refine ⟨fun x hx => p1 x (List.mem_cons_of_mem _ hx), fun t g a b c d => ?_, fun t a b => ?_, t3, n2⟩
  · by_cases q : g = f
    · subst q
      rw [upd_eq, bt_del h0 h8 a b, Bool.and_eq_true, p2 t g a b c d, List.mem_cons, Prod.mk.injEq]
      constructor
      · rintro ⟨⟨u, -⟩ | u, v⟩
        · simp [u] at v
        · exact u
      · intro u
        refine ⟨Or.inr u, ?_⟩
        have : t ≠ s := fun e => n1 (e ▸ u)
        simp [this]
    · rw [upd_ne _ _ (fun u => q (clampInj c f0 u)), p2 t g a b c d, List.mem_cons, Prod.mk.injEq]
      constructor
      · rintro (⟨-, u⟩ | u)
        · exact absurd u q
        · exact u
      · exact Or.inr
  · by_cases q : t = s
    · subst q; rw [upd_eq]
    · rw [upd_ne _ _ (fun u => q (clampInj a h0 u)), p3 t a b, cnt_cons, if_neg (Ne.symm q)]; rfl
theorem PI.grow {fn' : Int32} {g : Nat → Int32} (P : PI cnt fn fl tr sz mf st) (hn : 0 ≤ fn.toInt) (hle : fn.toInt ≤ fn'.toInt) (hg : ∀ i, g i = if i < fn.toNatClampNeg then fl i else 0) : PI cnt fn' g tr sz mf st := by
  obtain ⟨p1, p2, p3, p4, p5⟩ := P
  refine ⟨fun x hx => ?_, fun t k a b c d => ?_, p3, p4, p5⟩
  · obtain ⟨u1, u2, u3, u4⟩ := p1 x hx; exact ⟨u1, u2, u3, by omega⟩
  · rw [hg]
    by_cases q : k.toInt < fn.toInt
    · rw [if_pos (by simp only [Int32.toNatClampNeg]; omega)]; exact p2 t k a b c q
    · rw [if_neg (by simp only [Int32.toNatClampNeg]; omega)]
      constructor
      · intro u; simp [bt] at u
      · intro u; have := (p1 _ u).2.2.2; simp only at this; omega
end Pure
section Bs2
section Proj
variable {Z : State} {h : Heap} {b fa ta ma sa : Addr} {kf kt km ki ks : ClassId} {cnt fn ts : Int32} {fl tr sz : Nat → Int32} {mf : Nat → Nat → Int32} (B : HB Z h b fa ta ma sa kf kt km ki ks cnt fn ts fl tr sz mf)
theorem HB.fF (B : HB Z h b fa ta ma sa kf kt km ki ks cnt fn ts fl tr sz mf) : Fld Z h b BS "flags" "[B" (.ref fa) := B.2.1
theorem HB.fT (B : HB Z h b fa ta ma sa kf kt km ki ks cnt fn ts fl tr sz mf) : Fld Z h b BS "trail" "[B" (.ref ta) := B.2.2.1
theorem HB.fM (B : HB Z h b fa ta ma sa kf kt km ki ks cnt fn ts fl tr sz mf) : Fld Z h b BS "members" "[[I" (.ref ma) := B.2.2.2.1
theorem HB.fS (B : HB Z h b fa ta ma sa kf kt km ki ks cnt fn ts fl tr sz mf) : Fld Z h b BS "sizes" "[I" (.ref sa) := B.2.2.2.2.1
theorem HB.fN (B : HB Z h b fa ta ma sa kf kt km ki ks cnt fn ts fl tr sz mf) : Fld Z h b BS "trailSize" "I" (.int ts) := B.2.2.2.2.2.1
theorem HB.aF (B : HB Z h b fa ta ma sa kf kt km ki ks cnt fn ts fl tr sz mf) : Arf Z h fa kf .byte fn fl := B.2.2.2.2.2.2.1
theorem HB.aT (B : HB Z h b fa ta ma sa kf kt km ki ks cnt fn ts fl tr sz mf) : Arf Z h ta kt .byte 64 tr := B.2.2.2.2.2.2.2.1
theorem HB.aM (B : HB Z h b fa ta ma sa kf kt km ki ks cnt fn ts fl tr sz mf) : Arv Z h ma km (.array .int) cnt ((List.range cnt.toNatClampNeg).map fun j => Value.ref (ma + 1 + j)) .null := B.2.2.2.2.2.2.2.2.1
theorem HB.aI (B : HB Z h b fa ta ma sa kf kt km ki ks cnt fn ts fl tr sz mf) {j : Nat} (hj : j < cnt.toNatClampNeg) : Arf Z h (ma + 1 + j) ki .int 16 (mf j) := B.2.2.2.2.2.2.2.2.2.1 j hj
theorem HB.aS (B : HB Z h b fa ta ma sa kf kt km ki ks cnt fn ts fl tr sz mf) : Arf Z h sa ks .int cnt sz := B.2.2.2.2.2.2.2.2.2.2.1
theorem HB.gb (B : HB Z h b fa ta ma sa kf kt km ki ks cnt fn ts fl tr sz mf) : Z.heap.size ≤ b := B.2.2.2.2.2.2.2.2.2.2.2.2.1
theorem HB.gf (B : HB Z h b fa ta ma sa kf kt km ki ks cnt fn ts fl tr sz mf) : Z.heap.size ≤ fa := B.2.2.2.2.2.2.2.2.2.2.2.2.2.1
theorem HB.gt (B : HB Z h b fa ta ma sa kf kt km ki ks cnt fn ts fl tr sz mf) : Z.heap.size ≤ ta := B.2.2.2.2.2.2.2.2.2.2.2.2.2.2.1
theorem HB.gm (B : HB Z h b fa ta ma sa kf kt km ki ks cnt fn ts fl tr sz mf) : Z.heap.size ≤ ma := B.2.2.2.2.2.2.2.2.2.2.2.2.2.2.2.1
theorem HB.gi (B : HB Z h b fa ta ma sa kf kt km ki ks cnt fn ts fl tr sz mf) {j : Nat} : Z.heap.size ≤ ma + 1 + j := Nat.le_trans B.gm (Nat.le_trans (Nat.le_add_right ma 1) (Nat.le_add_right _ j))
theorem HB.gs (B : HB Z h b fa ta ma sa kf kt km ki ks cnt fn ts fl tr sz mf) : Z.heap.size ≤ sa := B.2.2.2.2.2.2.2.2.2.2.2.2.2.2.2.2
end Proj
theorem outer_at {N : Nat} {ma : Addr} {j : Nat} (h : j < N) : ((List.range N).map fun j => Value.ref (ma + 1 + j)).getD j .null = .ref (ma + 1 + j) := by
  simp [List.getD_eq_getElem?_getD, h]
section Steps
variable {p : Program} {l : Launch} {e : Env} {R : Room} {s : State} {m : MethodId} {args : Array Value} {below : List Frame} {meth : Method} {c : Code} {T T' : State} {locs : List Loc} {cells slots : Nat} {Z : State} {a0 : Array Value} {h : Heap} {P : State → Prop} {pc q : Nat} {Ls : Array Slot} {S : List Value} {y : MethodName} {bytes : ByteArray} {maxL : Nat} {ret : Option FieldType} {a b : Addr} {kA kB : ClassId} {n z z' nn : Int32} {f g : Nat → Int32}
theorem g_copyF {index W : Nat} (X : Stand p l e R s m args below meth c T locs cells slots) (K : Kt p Z s m meth c y bytes maxL ret) (w1 : (Jvm.Cond.methodLink y.cls index Jvm.Stand.acN).before a0 Z = true) (w2 : (Jvm.Cond.native Jvm.Stand.acN).before a0 Z = true) (w3 : (Jvm.Cond.static Jvm.Stand.acN).before a0 Z = true) (w4 : (Jvm.Cond.initialized "java/lang/System").before a0 Z = true) (eT : T.heap = h)
    (A : Arf Z h a kA .byte z f) (B : Arf Z h b kB .byte z' g) (h3 : ¬ nn < 0) (h4 : nn.toNatClampNeg ≤ z.toNatClampNeg) (h5 : nn.toNatClampNeg ≤ z'.toNatClampNeg) (N : Fr Z.heap.size locs) (ge : Z.heap.size ≤ b) (hsz : Ls.size = maxL) (hd : decode bytes pc = .ok (.invokestatic index, 3)) (hf : 1 ≤ R.frames) (hW : (S.map fun v => v.category).sum ≤ W) (hlo : W + (nativeFrameWords "java/lang/System" "arraycopy" 5 + 11) ≤ R.locals) (hq : pc + 3 = q)
    (k : ∀ T' h' L, Stand p l e R s m args below meth c T' L cells slots → T'.heap = h' → Fr Z.heap.size L → Keep h h' [b] → Arf Z h' b kB .byte z' (fun i => if i < nn.toNatClampNeg then f i else g i) → Go p e below P T' (mkF m q Ls S)) : Go p e below P T (mkF m pc Ls (.int nn :: .int 0 :: .ref b :: .int 0 :: .ref a :: S)) := by
  subst hq
  obtain ⟨vs, Av, la, va⟩ := A
  obtain ⟨vd, Bv, lb, vb⟩ := B
  have z0 : (0 : Int32).toNatClampNeg = 0 := rfl
  obtain ⟨T1, h1, L1, X1, e1, N1, K1, A1, st⟩ := cpA X K.x K.z K.own w1 w2 w3 w4 eT Av Bv (Or.inl ⟨rfl, rfl⟩) (by decide : ¬ (0 : Int32) < 0) (by decide : ¬ (0 : Int32) < 0) h3 (by rw [z0]; omega) (by rw [z0]; omega) rfl (by rw [z0]; omega) N ge (g := mkF m pc Ls (.int nn :: .int 0 :: .ref b :: .int 0 :: .ref a :: S)) rfl (by rw [K.ml]; exact hsz) rfl (K.d hd) hf (W := W) (by show 2 * 0 + _ ≤ _; omega) hlo
  refine Go.by_ st (k T1 h1 L1 X1 e1 N1 K1 ⟨_, A1, ?_, fun i hi => ?_⟩)
  · simp only [z0, List.take_zero, List.nil_append, List.length_append, List.length_map, List.length_range, List.length_drop]; omega
  · simp only [z0, List.take_zero, List.nil_append, Nat.zero_add, List.getD_eq_getElem?_getD]
    by_cases q : i < nn.toNatClampNeg
    · rw [List.getElem?_append_left (by simpa using q), if_pos q]
      simp only [List.getElem?_map, List.getElem?_range q, Option.map_some, Option.getD_some]
      have := va i (by omega); simpa [List.getD_eq_getElem?_getD] using this
    · rw [List.getElem?_append_right (by simpa using q), if_neg q]
      simp only [List.length_map, List.length_range, List.getElem?_drop]
      have := vb i hi
      rw [List.getD_eq_getElem?_getD] at this
      rw [show nn.toNatClampNeg + (i - nn.toNatClampNeg) = i by omega]; exact this
theorem g_gridF {index : Nat} {cnt : Int32} (X : Stand p l e R s m args below meth c T locs cells slots) (K : Kt p Z s m meth c y bytes maxL ret) (w1 : (Jvm.Cond.classLink y.cls index "[[I").before a0 Z = true) (w2 : (Jvm.Cond.arrayOver (.array .int)).before a0 Z = true) (w3 : (Jvm.Cond.arrayClass .int).before a0 Z = true) (eT : T.heap = h) (hd : decode bytes pc = .ok (.multianewarray index 2, 4)) (h1 : 1 ≤ cnt.toInt) (h8 : cnt.toInt ≤ 8) (hc : cells + 9 ≤ R.cells) (hl : slots + 136 ≤ R.slots) (hq : pc + 4 = q)
    (kk : ∀ (T' : State) (h' : Heap) (a : Addr) (kA kI : ClassId), Stand p l e R s m args below meth c T' locs (cells + 9) (slots + 136) → T'.heap = h' → Ext h h' → h.size = a → Arv Z h' a kA (.array .int) cnt ((List.range cnt.toNatClampNeg).map fun j => Value.ref (a + 1 + j)) .null → (∀ j : Nat, j < cnt.toNatClampNeg → Arf Z h' (a + 1 + j) kI .int 16 (fun _ => 0)) → Go p e below P T' (mkF m q Ls (.ref a :: S))) : Go p e below P T (mkF m pc Ls (.int 16 :: .int cnt :: S)) := by
  have hn : cnt.toNatClampNeg ≤ 8 := by simp only [Int32.toNatClampNeg]; omega
  have hneg : ¬ cnt < 0 := by rw [Int32.lt_iff_toInt_lt]; have : (0 : Int32).toInt = 0 := rfl; omega
  refine g_grid (C := "[I") (ad := "[[I") (ty := .int) (N := cnt.toNatClampNeg) (cap := 16) X K (by decide) (by decide) w1 w2 w3 eT hd hneg (by decide) rfl (by decide) rfl (by decide) (by omega) rfl rfl (by omega) (by omega) hq fun T' h' a kA kI X' e' E' z' A' I' => ?_
  exact kk T' h' a kA kI (X'.more (by omega) (by omega)) e' E' z' A' fun j hj => Arf.of_rep (I' j hj) (by decide)
end Steps
def BI (Z : State) (h : Heap) (b : Addr) (cnt : Int32) (FB : Int) (st : Stk) : Prop :=
  ∃ (fa ta ma sa : Addr) (kf kt km ki ks : ClassId) (fn : Int32) (fl tr sz : Nat → Int32) (mf : Nat → Nat → Int32), HB Z h b fa ta ma sa kf kt km ki ks cnt fn (Int32.ofNat st.length) fl tr sz mf ∧ PI cnt fn fl tr sz mf st ∧ (fn.toInt = 64 ∨ 128 ≤ fn.toInt) ∧ fn.toInt ≤ FB ∧ 1 ≤ cnt.toInt ∧ cnt.toInt ≤ 8
theorem BI.exa {Z : State} {h : Heap} {b : Addr} {cnt : Int32} {FB : Int} {st : Stk} (B : BI Z h b cnt FB st) : Exa Z h b BS := by
  obtain ⟨_, _, _, _, _, _, _, _, _, _, _, _, _, _, B, -⟩ := B; exact B.1
theorem ofNat_toInt {n : Nat} (h : n ≤ 1000) : (Int32.ofNat n).toInt = n := Int32.toInt_ofNat_small (by omega)
theorem ofNat_clamp {n : Nat} (h : n ≤ 1000) : (Int32.ofNat n).toNatClampNeg = n := by simp only [Int32.toNatClampNeg, ofNat_toInt h]; omega
theorem ofNat_pred {n : Nat} : Int32.ofNat (n + 1) - 1 = Int32.ofNat n := by
  rw [Int32.ofNat_add, show Int32.ofNat 1 = 1 from rfl, Int32.add_sub_cancel]
theorem inb {s n : Int32} (h0 : 0 ≤ s.toInt) (h1 : s.toInt < n.toInt) : ¬ s < 0 ∧ s < n := ⟨by rw [Int32.lt_iff_toInt_lt]; have : (0 : Int32).toInt = 0 := rfl; omega, by rw [Int32.lt_iff_toInt_lt]; exact h1⟩
theorem nar_small {s : Int32} (h0 : 0 ≤ s.toInt) (h8 : s.toInt < 8) : nar .byte s.toInt8.toInt32 = s := by
  rcases eight h0 h8 with rfl | rfl | rfl | rfl | rfl | rfl | rfl | rfl <;> decide
end Bs2
theorem Ds.make {b fa ta ma sa N : Nat} (h1 : b < fa) (h2 : fa < ta) (h3 : ta < ma) (h4 : ma < sa) (hi : ∀ j, j < N → ma + 1 + j < sa) : Ds b fa ta ma sa N := by
  have l1 : b < ta := Nat.lt_trans h1 h2
  have l2 : b < ma := Nat.lt_trans l1 h3
  have l3 : b < sa := Nat.lt_trans l2 h4
  have l4 : fa < ma := Nat.lt_trans h2 h3
  have l5 : fa < sa := Nat.lt_trans l4 h4
  have l6 : ta < sa := Nat.lt_trans h3 h4
  refine ⟨Nat.ne_of_lt h1, Nat.ne_of_lt l1, Nat.ne_of_lt l2, Nat.ne_of_lt l3, Nat.ne_of_lt h2, Nat.ne_of_lt l4, Nat.ne_of_lt l5, Nat.ne_of_lt h3, Nat.ne_of_lt l6, Nat.ne_of_lt h4, fun j hj => ?_⟩
  have q := hi j hj
  have m1 : ma < ma + 1 + j := by omega
  exact ⟨Nat.ne_of_lt (Nat.lt_trans l2 m1), Nat.ne_of_lt (Nat.lt_trans l4 m1), Nat.ne_of_lt (Nat.lt_trans h3 m1), Nat.ne_of_gt q, Nat.ne_of_lt m1⟩
theorem drop_cons {x : Int32 × Int32} {r : Stk} {k : Nat} (h : k ≤ r.length) : (x :: r).drop ((x :: r).length - k) = r.drop (r.length - k) := by
  rw [List.length_cons, show r.length + 1 - k = (r.length - k) + 1 by omega, List.drop_succ_cons]
theorem drop_all {st : Stk} {k : Nat} (h : st.length ≤ k) : st.drop (st.length - k) = st := by rw [show st.length - k = 0 by omega, List.drop_zero]
section M1
def b2 (P : Prop) [Decidable P] : Int32 := if P then 1 else 0
theorem b2_1 {P : Prop} [Decidable P] (h : P) : (1 : Int32) = b2 P := (if_pos h).symm
theorem b2_0 {P : Prop} [Decidable P] (h : ¬ P) : (0 : Int32) = b2 P := (if_neg h).symm
theorem b2_n0 {P : Prop} [Decidable P] (h : P) : ¬ (b2 P = (0 : Int32)) := by rw [← b2_1 h]; decide
theorem b2_z {P : Prop} [Decidable P] (h : ¬ P) : b2 P = (0 : Int32) := (b2_0 h).symm
theorem b2_01 (P : Prop) [Decidable P] : b2 P = 0 ∨ b2 P = 1 := by
  by_cases h : P
  · exact Or.inr (b2_1 h).symm
  · exact Or.inl (b2_0 h).symm
theorem own_127 (x : Int32) : 0 ≤ (x &&& (127 : Int32)).toInt ∧ (x &&& (127 : Int32)).toInt ≤ 127 := by
  have h : (x &&& (127 : Int32)).toInt = x.toInt % 2 ^ 7 := Jvm.Kit.i32_mask x 127 (k := 7) (by decide) (by decide)
  omega
theorem own_7 (x : Int32) : 0 ≤ (x &&& (7 : Int32)).toInt ∧ (x &&& (7 : Int32)).toInt < (8 : Int32).toInt := by
  have h : (x &&& (7 : Int32)).toInt = x.toInt % 2 ^ 3 := Jvm.Kit.i32_mask x 7 (k := 3) (by decide) (by decide)
  have z : (8 : Int32).toInt = 8 := rfl
  omega
variable {s0 f0 s1 f1 s2 f2 kk : Int32}
set_option maxHeartbeats 40000000 in
theorem pureB (hk : kk = 0 ∨ kk = 1 ∨ kk = 2 ∨ kk = 3) {sk2 sk3 : Stk} (h2 : (if (s1, f1) ∈ ([(s0, f0)] : Stk) then [(s0, f0)] else (s1, f1) :: [(s0, f0)]) = sk2) (h3 : (if (s2, f2) ∈ sk2 then sk2 else (s2, f2) :: sk2) = sk3) {n1 n2 : Prop} [Decidable n1] [Decidable n2] (hn1 : n1 ↔ ¬ (s0 = s1 ∧ f0 = f1)) (hn2 : n2 ↔ (¬ (s0 = s2 ∧ f0 = f2) ∧ ¬ (s1 = s2 ∧ f1 = f2)))
    {k0 k1 k2 : Prop} [Decidable k0] [Decidable k1] [Decidable k2] (hk0 : k0 ↔ (0 : Int32) < kk) (hk1 : k1 ↔ ((1 : Int32) < kk ∧ n1)) (hk2 : k2 ↔ ((2 : Int32) < kk ∧ n2)) {mm : Int32} (hm : b2 k0 + b2 k1 + b2 k2 = mm) {sk4 : Stk} (h4 : sk3.drop (sk3.length - mm.toInt.toNat) = sk4) :
    sk2.length ≤ 2 ∧ sk3.length ≤ 3 ∧ 0 ≤ mm.toInt ∧ Int32.ofNat sk4.length = mm ∧
    ((s0, f0) ∈ sk4 ↔ (k0 ∨ (k1 ∧ s1 = s0 ∧ f1 = f0) ∨ (k2 ∧ s2 = s0 ∧ f2 = f0))) ∧ ((s1, f1) ∈ sk4 ↔ ((k0 ∧ s0 = s1 ∧ f0 = f1) ∨ k1 ∨ (k2 ∧ s2 = s1 ∧ f2 = f1))) ∧ ((s2, f2) ∈ sk4 ↔ ((k0 ∧ s0 = s2 ∧ f0 = f2) ∨ (k1 ∧ s1 = s2 ∧ f1 = f2) ∨ k2)) ∧
    Int32.ofNat (cntS sk4 s0) = b2 k0 + b2 (k1 ∧ s1 = s0) + b2 (k2 ∧ s2 = s0) ∧ Int32.ofNat (cntS sk4 s1) = b2 (k0 ∧ s0 = s1) + b2 k1 + b2 (k2 ∧ s2 = s1) ∧ Int32.ofNat (cntS sk4 s2) = b2 (k0 ∧ s0 = s2) + b2 (k1 ∧ s1 = s2) + b2 k2 := by
  have l1 : ((1 : Int32) < 0) = False := by decide
  have l2 : ((2 : Int32) < 0) = False := by decide
  have l3 : ((0 : Int32) < 0) = False := by decide
  have l4 : ((0 : Int32) < 1) = True := by decide
  have l5 : ((1 : Int32) < 1) = False := by decide
  have l6 : ((2 : Int32) < 1) = False := by decide
  have l7 : ((0 : Int32) < 2) = True := by decide
  have l8 : ((1 : Int32) < 2) = True := by decide
  have l9 : ((2 : Int32) < 2) = False := by decide
  have la : ((0 : Int32) < 3) = True := by decide
  have lb : ((1 : Int32) < 3) = True := by decide
  have lc : ((2 : Int32) < 3) = True := by decide
  have m0 : (0 : Int32).toInt.toNat = 0 := rfl
  have m1 : (1 : Int32).toInt.toNat = 1 := rfl
  have m2 : ((1 : Int32) + 1).toInt.toNat = 2 := rfl
  have m3 : ((1 : Int32) + 1 + 1).toInt.toNat = 3 := rfl
  have o0 : Int32.ofNat 0 = 0 := rfl
  have o1 : Int32.ofNat 1 = 1 := rfl
  have o2 : Int32.ofNat 2 = (1 : Int32) + 1 := rfl
  have o3 : Int32.ofNat 3 = (1 : Int32) + 1 + 1 := rfl
  subst h2 h3 hm h4
  by_cases a1 : s1 = s0
  all_goals by_cases a2 : s2 = s0
  all_goals by_cases a3 : s2 = s1
  all_goals by_cases c1 : f1 = f0
  all_goals by_cases c2 : f2 = f0
  all_goals by_cases c3 : f2 = f1
  all_goals try (have a1' : ¬ (s0 = s1) := fun q => a1 q.symm)
  all_goals try (have a2' : ¬ (s0 = s2) := fun q => a2 q.symm)
  all_goals try (have a3' : ¬ (s1 = s2) := fun q => a3 q.symm)
  all_goals try (have c1' : ¬ (f0 = f1) := fun q => c1 q.symm)
  all_goals try (have c2' : ¬ (f0 = f2) := fun q => c2 q.symm)
  all_goals try (have c3' : ¬ (f1 = f2) := fun q => c3 q.symm)
  all_goals try subst a1
  all_goals try subst a2
  all_goals try subst a3
  all_goals try subst c1
  all_goals try subst c2
  all_goals try subst c3
  all_goals first | contradiction | skip
  all_goals rcases hk with rfl | rfl | rfl | rfl
  all_goals simp only [l1, l2, l3, l4, l5, l6, l7, l8, l9, la, lb, lc, false_and, true_and, hn1, hn2] at hk0 hk1 hk2
  all_goals simp [*, b2, cntS]
theorem r1_eq : (if (s1, f1) ∈ ([(s0, f0)] : Stk) then (0 : Int32) else 1) = b2 (¬ (s0 = s1 ∧ f0 = f1)) := by
  by_cases h : s0 = s1 ∧ f0 = f1
  · obtain ⟨rfl, rfl⟩ := h; simp [b2]
  · rw [← b2_1 h]; exact if_neg (by simp only [List.mem_cons, Prod.mk.injEq, List.not_mem_nil, or_false]; exact fun q => h ⟨q.1.symm, q.2.symm⟩)
theorem r2_eq {sk2 : Stk} (h2 : (if (s1, f1) ∈ ([(s0, f0)] : Stk) then [(s0, f0)] else (s1, f1) :: [(s0, f0)]) = sk2) : (if (s2, f2) ∈ sk2 then (0 : Int32) else 1) = b2 (¬ (s0 = s2 ∧ f0 = f2) ∧ ¬ (s1 = s2 ∧ f1 = f2)) := by
  have hm : (s2, f2) ∈ sk2 ↔ ((s0 = s2 ∧ f0 = f2) ∨ (s1 = s2 ∧ f1 = f2)) := by
    subst h2
    by_cases h : (s1, f1) ∈ ([(s0, f0)] : Stk)
    · rw [if_pos h]
      simp only [List.mem_cons, Prod.mk.injEq, List.not_mem_nil, or_false] at h ⊢
      obtain ⟨rfl, rfl⟩ := h
      exact ⟨fun q => Or.inl ⟨q.1.symm, q.2.symm⟩, fun q => q.elim (fun u => ⟨u.1.symm, u.2.symm⟩) fun u => ⟨u.1.symm, u.2.symm⟩⟩
    · rw [if_neg h]
      simp only [List.mem_cons, Prod.mk.injEq, List.not_mem_nil, or_false]
      exact ⟨fun q => q.elim (fun u => Or.inr ⟨u.1.symm, u.2.symm⟩) fun u => Or.inl ⟨u.1.symm, u.2.symm⟩, fun q => q.elim (fun u => Or.inr ⟨u.1.symm, u.2.symm⟩) fun u => Or.inl ⟨u.1.symm, u.2.symm⟩⟩
  by_cases h : (s2, f2) ∈ sk2
  · rw [if_pos h]; exact b2_0 fun q => (hm.mp h).elim q.1 q.2
  · rw [if_neg h]; exact b2_1 ⟨fun q => h (hm.mpr (Or.inl q)), fun q => h (hm.mpr (Or.inr q))⟩
theorem b2_iff {P Q : Prop} [Decidable P] [Decidable Q] (h : P ↔ Q) : (if P then (1 : Int32) else 0) = b2 Q := by
  by_cases q : P
  · rw [if_pos q]; exact b2_1 (h.mp q)
  · rw [if_neg q]; exact b2_0 fun u => q (h.mpr u)
end M1
theorem own_mk4 (x : Int32) : (x &&& (3 : Int32)) = (0 : Int32) ∨ (x &&& (3 : Int32)) = (1 : Int32) ∨ (x &&& (3 : Int32)) = (2 : Int32) ∨ (x &&& (3 : Int32)) = (3 : Int32) := by
  have h : (x &&& (3 : Int32)).toInt = x.toInt % 2 ^ 2 := Jvm.Kit.i32_mask x 3 (k := 2) (by decide) (by decide)
  generalize (x &&& (3 : Int32)) = z at h ⊢
  have q : z.toInt = 0 ∨ z.toInt = 1 ∨ z.toInt = 2 ∨ z.toInt = 3 := by omega
  rcases q with q | q | q | q
  · exact Or.inl (own_lit q (by decide))
  · exact Or.inr (Or.inl (own_lit q (by decide)))
  · exact Or.inr (Or.inr (Or.inl (own_lit q (by decide))))
  · exact Or.inr (Or.inr (Or.inr ((own_lit q (by decide)))))
def Hyp (Z : State) (a0 : Array Value) : Prop := (∀ d ∈ tables_1, d.before a0 Z = true) ∧ narrow_1.value a0 Z none Z [] = some true ∧ Fit Z
section Facts
variable {Z : State} {a0 : Array Value}
theorem w0 (H : Hyp Z a0) : (Jvm.Cond.classLink "com/example/stets/stets/automaton/BranchSetsUndoToPinLaw" (7 : Nat) "com/example/stets/stets/automaton/BranchSets").before a0 Z = true := H.1 _ (List.mem_of_getElem? (i := 0) rfl)
theorem w1 (H : Hyp Z a0) : (Jvm.Cond.instantiable "com/example/stets/stets/automaton/BranchSets" (5 : Nat)).before a0 Z = true := H.1 _ (List.mem_of_getElem? (i := 1) rfl)
theorem w2 (H : Hyp Z a0) : (Jvm.Cond.initialized "com/example/stets/stets/automaton/BranchSets").before a0 Z = true := H.1 _ (List.mem_of_getElem? (i := 2) rfl)
theorem w3 (H : Hyp Z a0) : (Jvm.Cond.methodLink "com/example/stets/stets/automaton/BranchSetsUndoToPinLaw" (9 : Nat) ({ cls := "com/example/stets/stets/automaton/BranchSets", name := "<init>", desc := "(I)V" } : Jvm.MethodName)).before a0 Z = true := H.1 _ (List.mem_of_getElem? (i := 3) rfl)
theorem w4 (H : Hyp Z a0) : (Jvm.Cond.instanceMethod ({ cls := "com/example/stets/stets/automaton/BranchSets", name := "<init>", desc := "(I)V" } : Jvm.MethodName)).before a0 Z = true := H.1 _ (List.mem_of_getElem? (i := 4) rfl)
theorem w5 (H : Hyp Z a0) : (Jvm.Cond.code ({ cls := "com/example/stets/stets/automaton/BranchSets", name := "<init>", desc := "(I)V" } : Jvm.MethodName) prog_6_method_1_code (2 : Nat) (Option.none : Option Jvm.ClassFile.FieldType)).before a0 Z = true := H.1 _ (List.mem_of_getElem? (i := 5) rfl)
theorem w6 (H : Hyp Z a0) : (Jvm.Cond.methodLink "com/example/stets/stets/automaton/BranchSets" (1 : Nat) ({ cls := "java/lang/Object", name := "<init>", desc := "()V" } : Jvm.MethodName)).before a0 Z = true := H.1 _ (List.mem_of_getElem? (i := 6) rfl)
theorem w7 (H : Hyp Z a0) : (Jvm.Cond.instanceMethod ({ cls := "java/lang/Object", name := "<init>", desc := "()V" } : Jvm.MethodName)).before a0 Z = true := H.1 _ (List.mem_of_getElem? (i := 7) rfl)
theorem w8 (H : Hyp Z a0) : (Jvm.Cond.code ({ cls := "java/lang/Object", name := "<init>", desc := "()V" } : Jvm.MethodName) object_method_1_code (1 : Nat) (Option.none : Option Jvm.ClassFile.FieldType)).before a0 Z = true := H.1 _ (List.mem_of_getElem? (i := 8) rfl)
theorem w9 (H : Hyp Z a0) : (Jvm.Cond.arrayClass Jvm.ClassFile.FieldType.byte).before a0 Z = true := H.1 _ (List.mem_of_getElem? (i := 9) rfl)
theorem w10 (H : Hyp Z a0) : (Jvm.Cond.fieldLink "com/example/stets/stets/automaton/BranchSets" (7 : Nat) "com/example/stets/stets/automaton/BranchSets" "flags" "[B").before a0 Z = true := H.1 _ (List.mem_of_getElem? (i := 10) rfl)
theorem w11 (H : Hyp Z a0) : (Jvm.Cond.lays "com/example/stets/stets/automaton/BranchSets" "com/example/stets/stets/automaton/BranchSets" "flags" "[B").before a0 Z = true := H.1 _ (List.mem_of_getElem? (i := 11) rfl)
theorem w12 (H : Hyp Z a0) : (Jvm.Cond.fieldLink "com/example/stets/stets/automaton/BranchSets" (13 : Nat) "com/example/stets/stets/automaton/BranchSets" "trail" "[B").before a0 Z = true := H.1 _ (List.mem_of_getElem? (i := 12) rfl)
theorem w13 (H : Hyp Z a0) : (Jvm.Cond.lays "com/example/stets/stets/automaton/BranchSets" "com/example/stets/stets/automaton/BranchSets" "trail" "[B").before a0 Z = true := H.1 _ (List.mem_of_getElem? (i := 13) rfl)
theorem w14 (H : Hyp Z a0) : (Jvm.Cond.classLink "com/example/stets/stets/automaton/BranchSets" (25 : Nat) "[[I").before a0 Z = true := H.1 _ (List.mem_of_getElem? (i := 14) rfl)
theorem w15 (H : Hyp Z a0) : (Jvm.Cond.arrayOver (Jvm.ClassFile.FieldType.array Jvm.ClassFile.FieldType.int)).before a0 Z = true := H.1 _ (List.mem_of_getElem? (i := 15) rfl)
theorem w16 (H : Hyp Z a0) : (Jvm.Cond.arrayClass Jvm.ClassFile.FieldType.int).before a0 Z = true := H.1 _ (List.mem_of_getElem? (i := 16) rfl)
theorem w17 (H : Hyp Z a0) : (Jvm.Cond.fieldLink "com/example/stets/stets/automaton/BranchSets" (27 : Nat) "com/example/stets/stets/automaton/BranchSets" "members" "[[I").before a0 Z = true := H.1 _ (List.mem_of_getElem? (i := 17) rfl)
theorem w18 (H : Hyp Z a0) : (Jvm.Cond.laysFinal "com/example/stets/stets/automaton/BranchSets" "com/example/stets/stets/automaton/BranchSets" "members" "[[I").before a0 Z = true := H.1 _ (List.mem_of_getElem? (i := 18) rfl)
theorem w19 (H : Hyp Z a0) : (Jvm.Cond.fieldLink "com/example/stets/stets/automaton/BranchSets" (30 : Nat) "com/example/stets/stets/automaton/BranchSets" "sizes" "[I").before a0 Z = true := H.1 _ (List.mem_of_getElem? (i := 19) rfl)
theorem w20 (H : Hyp Z a0) : (Jvm.Cond.laysFinal "com/example/stets/stets/automaton/BranchSets" "com/example/stets/stets/automaton/BranchSets" "sizes" "[I").before a0 Z = true := H.1 _ (List.mem_of_getElem? (i := 20) rfl)
theorem w21 (H : Hyp Z a0) : (Jvm.Cond.methodLink "com/example/stets/stets/automaton/BranchSetsUndoToPinLaw" (12 : Nat) ({ cls := "com/example/stets/stets/automaton/BranchSets", name := "add", desc := "(II)Z" } : Jvm.MethodName)).before a0 Z = true := H.1 _ (List.mem_of_getElem? (i := 21) rfl)
theorem w22 (H : Hyp Z a0) : (Jvm.Cond.declares ({ cls := "com/example/stets/stets/automaton/BranchSets", name := "add", desc := "(II)Z" } : Jvm.MethodName)).before a0 Z = true := H.1 _ (List.mem_of_getElem? (i := 22) rfl)
theorem w23 (H : Hyp Z a0) : (Jvm.Cond.instanceMethod ({ cls := "com/example/stets/stets/automaton/BranchSets", name := "add", desc := "(II)Z" } : Jvm.MethodName)).before a0 Z = true := H.1 _ (List.mem_of_getElem? (i := 23) rfl)
theorem w24 (H : Hyp Z a0) : (Jvm.Cond.selects "com/example/stets/stets/automaton/BranchSets" ({ cls := "com/example/stets/stets/automaton/BranchSets", name := "add", desc := "(II)Z" } : Jvm.MethodName) ({ cls := "com/example/stets/stets/automaton/BranchSets", name := "add", desc := "(II)Z" } : Jvm.MethodName)).before a0 Z = true := H.1 _ (List.mem_of_getElem? (i := 24) rfl)
theorem w25 (H : Hyp Z a0) : (Jvm.Cond.code ({ cls := "com/example/stets/stets/automaton/BranchSets", name := "add", desc := "(II)Z" } : Jvm.MethodName) prog_6_method_2_code (3 : Nat) (Option.some Jvm.ClassFile.FieldType.boolean)).before a0 Z = true := H.1 _ (List.mem_of_getElem? (i := 25) rfl)
theorem w26 (H : Hyp Z a0) : (Jvm.Cond.methodLink "com/example/stets/stets/automaton/BranchSets" (34 : Nat) ({ cls := "com/example/stets/stets/automaton/BranchSets", name := "contains", desc := "(II)Z" } : Jvm.MethodName)).before a0 Z = true := H.1 _ (List.mem_of_getElem? (i := 26) rfl)
theorem w27 (H : Hyp Z a0) : (Jvm.Cond.declares ({ cls := "com/example/stets/stets/automaton/BranchSets", name := "contains", desc := "(II)Z" } : Jvm.MethodName)).before a0 Z = true := H.1 _ (List.mem_of_getElem? (i := 27) rfl)
theorem w28 (H : Hyp Z a0) : (Jvm.Cond.instanceMethod ({ cls := "com/example/stets/stets/automaton/BranchSets", name := "contains", desc := "(II)Z" } : Jvm.MethodName)).before a0 Z = true := H.1 _ (List.mem_of_getElem? (i := 28) rfl)
theorem w29 (H : Hyp Z a0) : (Jvm.Cond.selects "com/example/stets/stets/automaton/BranchSets" ({ cls := "com/example/stets/stets/automaton/BranchSets", name := "contains", desc := "(II)Z" } : Jvm.MethodName) ({ cls := "com/example/stets/stets/automaton/BranchSets", name := "contains", desc := "(II)Z" } : Jvm.MethodName)).before a0 Z = true := H.1 _ (List.mem_of_getElem? (i := 29) rfl)
theorem w30 (H : Hyp Z a0) : (Jvm.Cond.code ({ cls := "com/example/stets/stets/automaton/BranchSets", name := "contains", desc := "(II)Z" } : Jvm.MethodName) prog_6_method_3_code (3 : Nat) (Option.some Jvm.ClassFile.FieldType.boolean)).before a0 Z = true := H.1 _ (List.mem_of_getElem? (i := 30) rfl)
theorem w31 (H : Hyp Z a0) : (Jvm.Cond.fieldLink "com/example/stets/stets/automaton/BranchSets" (53 : Nat) "com/example/stets/stets/automaton/BranchSets" "trailSize" "I").before a0 Z = true := H.1 _ (List.mem_of_getElem? (i := 31) rfl)
theorem w32 (H : Hyp Z a0) : (Jvm.Cond.lays "com/example/stets/stets/automaton/BranchSets" "com/example/stets/stets/automaton/BranchSets" "trailSize" "I").before a0 Z = true := H.1 _ (List.mem_of_getElem? (i := 32) rfl)
theorem w33 (H : Hyp Z a0) : (Jvm.Cond.methodLink "com/example/stets/stets/automaton/BranchSetsUndoToPinLaw" (16 : Nat) ({ cls := "com/example/stets/stets/automaton/BranchSetsUndoToPinLaw", name := "same", desc := "(IIII)Z" } : Jvm.MethodName)).before a0 Z = true := H.1 _ (List.mem_of_getElem? (i := 33) rfl)
theorem w34 (H : Hyp Z a0) : (Jvm.Cond.static ({ cls := "com/example/stets/stets/automaton/BranchSetsUndoToPinLaw", name := "same", desc := "(IIII)Z" } : Jvm.MethodName)).before a0 Z = true := H.1 _ (List.mem_of_getElem? (i := 34) rfl)
theorem w35 (H : Hyp Z a0) : (Jvm.Cond.initialized "com/example/stets/stets/automaton/BranchSetsUndoToPinLaw").before a0 Z = true := H.1 _ (List.mem_of_getElem? (i := 35) rfl)
theorem w36 (H : Hyp Z a0) : (Jvm.Cond.code ({ cls := "com/example/stets/stets/automaton/BranchSetsUndoToPinLaw", name := "same", desc := "(IIII)Z" } : Jvm.MethodName) method_2_code (4 : Nat) (Option.some Jvm.ClassFile.FieldType.boolean)).before a0 Z = true := H.1 _ (List.mem_of_getElem? (i := 36) rfl)
theorem w37 (H : Hyp Z a0) : (Jvm.Cond.methodLink "com/example/stets/stets/automaton/BranchSetsUndoToPinLaw" (22 : Nat) ({ cls := "com/example/stets/stets/automaton/BranchSetsUndoToPinLaw", name := "one", desc := "(Z)I" } : Jvm.MethodName)).before a0 Z = true := H.1 _ (List.mem_of_getElem? (i := 37) rfl)
theorem w38 (H : Hyp Z a0) : (Jvm.Cond.static ({ cls := "com/example/stets/stets/automaton/BranchSetsUndoToPinLaw", name := "one", desc := "(Z)I" } : Jvm.MethodName)).before a0 Z = true := H.1 _ (List.mem_of_getElem? (i := 38) rfl)
theorem w39 (H : Hyp Z a0) : (Jvm.Cond.code ({ cls := "com/example/stets/stets/automaton/BranchSetsUndoToPinLaw", name := "one", desc := "(Z)I" } : Jvm.MethodName) method_3_code (1 : Nat) (Option.some Jvm.ClassFile.FieldType.int)).before a0 Z = true := H.1 _ (List.mem_of_getElem? (i := 39) rfl)
theorem w40 (H : Hyp Z a0) : (Jvm.Cond.methodLink "com/example/stets/stets/automaton/BranchSetsUndoToPinLaw" (26 : Nat) ({ cls := "com/example/stets/stets/automaton/BranchSets", name := "undoTo", desc := "(I)V" } : Jvm.MethodName)).before a0 Z = true := H.1 _ (List.mem_of_getElem? (i := 40) rfl)
theorem w41 (H : Hyp Z a0) : (Jvm.Cond.declares ({ cls := "com/example/stets/stets/automaton/BranchSets", name := "undoTo", desc := "(I)V" } : Jvm.MethodName)).before a0 Z = true := H.1 _ (List.mem_of_getElem? (i := 41) rfl)
theorem w42 (H : Hyp Z a0) : (Jvm.Cond.instanceMethod ({ cls := "com/example/stets/stets/automaton/BranchSets", name := "undoTo", desc := "(I)V" } : Jvm.MethodName)).before a0 Z = true := H.1 _ (List.mem_of_getElem? (i := 42) rfl)
theorem w43 (H : Hyp Z a0) : (Jvm.Cond.selects "com/example/stets/stets/automaton/BranchSets" ({ cls := "com/example/stets/stets/automaton/BranchSets", name := "undoTo", desc := "(I)V" } : Jvm.MethodName) ({ cls := "com/example/stets/stets/automaton/BranchSets", name := "undoTo", desc := "(I)V" } : Jvm.MethodName)).before a0 Z = true := H.1 _ (List.mem_of_getElem? (i := 43) rfl)
theorem w44 (H : Hyp Z a0) : (Jvm.Cond.code ({ cls := "com/example/stets/stets/automaton/BranchSets", name := "undoTo", desc := "(I)V" } : Jvm.MethodName) prog_6_method_8_code (4 : Nat) (Option.none : Option Jvm.ClassFile.FieldType)).before a0 Z = true := H.1 _ (List.mem_of_getElem? (i := 44) rfl)
theorem w45 (H : Hyp Z a0) : (Jvm.Cond.methodLink "com/example/stets/stets/automaton/BranchSetsUndoToPinLaw" (29 : Nat) ({ cls := "com/example/stets/stets/automaton/BranchSets", name := "mark", desc := "()I" } : Jvm.MethodName)).before a0 Z = true := H.1 _ (List.mem_of_getElem? (i := 45) rfl)
theorem w46 (H : Hyp Z a0) : (Jvm.Cond.declares ({ cls := "com/example/stets/stets/automaton/BranchSets", name := "mark", desc := "()I" } : Jvm.MethodName)).before a0 Z = true := H.1 _ (List.mem_of_getElem? (i := 46) rfl)
theorem w47 (H : Hyp Z a0) : (Jvm.Cond.instanceMethod ({ cls := "com/example/stets/stets/automaton/BranchSets", name := "mark", desc := "()I" } : Jvm.MethodName)).before a0 Z = true := H.1 _ (List.mem_of_getElem? (i := 47) rfl)
theorem w48 (H : Hyp Z a0) : (Jvm.Cond.selects "com/example/stets/stets/automaton/BranchSets" ({ cls := "com/example/stets/stets/automaton/BranchSets", name := "mark", desc := "()I" } : Jvm.MethodName) ({ cls := "com/example/stets/stets/automaton/BranchSets", name := "mark", desc := "()I" } : Jvm.MethodName)).before a0 Z = true := H.1 _ (List.mem_of_getElem? (i := 48) rfl)
theorem w49 (H : Hyp Z a0) : (Jvm.Cond.code ({ cls := "com/example/stets/stets/automaton/BranchSets", name := "mark", desc := "()I" } : Jvm.MethodName) prog_6_method_7_code (1 : Nat) (Option.some Jvm.ClassFile.FieldType.int)).before a0 Z = true := H.1 _ (List.mem_of_getElem? (i := 49) rfl)
theorem w50 (H : Hyp Z a0) : (Jvm.Cond.methodLink "com/example/stets/stets/automaton/BranchSetsUndoToPinLaw" (33 : Nat) ({ cls := "com/example/stets/stets/automaton/BranchSets", name := "contains", desc := "(II)Z" } : Jvm.MethodName)).before a0 Z = true := H.1 _ (List.mem_of_getElem? (i := 50) rfl)
theorem w51 (H : Hyp Z a0) : (Jvm.Cond.methodLink "com/example/stets/stets/automaton/BranchSetsUndoToPinLaw" (36 : Nat) ({ cls := "com/example/stets/stets/automaton/BranchSets", name := "size", desc := "(I)I" } : Jvm.MethodName)).before a0 Z = true := H.1 _ (List.mem_of_getElem? (i := 51) rfl)
theorem w52 (H : Hyp Z a0) : (Jvm.Cond.declares ({ cls := "com/example/stets/stets/automaton/BranchSets", name := "size", desc := "(I)I" } : Jvm.MethodName)).before a0 Z = true := H.1 _ (List.mem_of_getElem? (i := 52) rfl)
theorem w53 (H : Hyp Z a0) : (Jvm.Cond.instanceMethod ({ cls := "com/example/stets/stets/automaton/BranchSets", name := "size", desc := "(I)I" } : Jvm.MethodName)).before a0 Z = true := H.1 _ (List.mem_of_getElem? (i := 53) rfl)
theorem w54 (H : Hyp Z a0) : (Jvm.Cond.selects "com/example/stets/stets/automaton/BranchSets" ({ cls := "com/example/stets/stets/automaton/BranchSets", name := "size", desc := "(I)I" } : Jvm.MethodName) ({ cls := "com/example/stets/stets/automaton/BranchSets", name := "size", desc := "(I)I" } : Jvm.MethodName)).before a0 Z = true := H.1 _ (List.mem_of_getElem? (i := 54) rfl)
theorem w55 (H : Hyp Z a0) : (Jvm.Cond.code ({ cls := "com/example/stets/stets/automaton/BranchSets", name := "size", desc := "(I)I" } : Jvm.MethodName) prog_6_method_4_code (2 : Nat) (Option.some Jvm.ClassFile.FieldType.int)).before a0 Z = true := H.1 _ (List.mem_of_getElem? (i := 55) rfl)
theorem w56 (H : Hyp Z a0) : (Jvm.Cond.methodLink "com/example/stets/stets/automaton/BranchSets" (38 : Nat) ({ cls := "java/lang/Math", name := "max", desc := "(II)I" } : Jvm.MethodName)).before a0 Z = true := H.1 _ (List.mem_of_getElem? (i := 56) rfl)
theorem w57 (H : Hyp Z a0) : (Jvm.Cond.static ({ cls := "java/lang/Math", name := "max", desc := "(II)I" } : Jvm.MethodName)).before a0 Z = true := H.1 _ (List.mem_of_getElem? (i := 57) rfl)
theorem w58 (H : Hyp Z a0) : (Jvm.Cond.initialized "java/lang/Math").before a0 Z = true := H.1 _ (List.mem_of_getElem? (i := 58) rfl)
theorem w59 (H : Hyp Z a0) : (Jvm.Cond.code ({ cls := "java/lang/Math", name := "max", desc := "(II)I" } : Jvm.MethodName) jdk_29_method_65_code (2 : Nat) (Option.some Jvm.ClassFile.FieldType.int)).before a0 Z = true := H.1 _ (List.mem_of_getElem? (i := 59) rfl)
theorem w60 (H : Hyp Z a0) : (Jvm.Cond.methodLink "com/example/stets/stets/automaton/BranchSets" (44 : Nat) ({ cls := "java/util/Arrays", name := "copyOf", desc := "([BI)[B" } : Jvm.MethodName)).before a0 Z = true := H.1 _ (List.mem_of_getElem? (i := 60) rfl)
theorem w61 (H : Hyp Z a0) : (Jvm.Cond.static ({ cls := "java/util/Arrays", name := "copyOf", desc := "([BI)[B" } : Jvm.MethodName)).before a0 Z = true := H.1 _ (List.mem_of_getElem? (i := 61) rfl)
theorem w62 (H : Hyp Z a0) : (Jvm.Cond.initialized "java/util/Arrays").before a0 Z = true := H.1 _ (List.mem_of_getElem? (i := 62) rfl)
theorem w63 (H : Hyp Z a0) : (Jvm.Cond.code ({ cls := "java/util/Arrays", name := "copyOf", desc := "([BI)[B" } : Jvm.MethodName) jdk_65_method_121_code (3 : Nat) (Option.some (Jvm.ClassFile.FieldType.array Jvm.ClassFile.FieldType.byte))).before a0 Z = true := H.1 _ (List.mem_of_getElem? (i := 63) rfl)
theorem w64 (H : Hyp Z a0) : (Jvm.Cond.methodLink "java/util/Arrays" (304 : Nat) ({ cls := "java/lang/Math", name := "min", desc := "(II)I" } : Jvm.MethodName)).before a0 Z = true := H.1 _ (List.mem_of_getElem? (i := 64) rfl)
theorem w65 (H : Hyp Z a0) : (Jvm.Cond.static ({ cls := "java/lang/Math", name := "min", desc := "(II)I" } : Jvm.MethodName)).before a0 Z = true := H.1 _ (List.mem_of_getElem? (i := 65) rfl)
theorem w66 (H : Hyp Z a0) : (Jvm.Cond.code ({ cls := "java/lang/Math", name := "min", desc := "(II)I" } : Jvm.MethodName) jdk_29_method_69_code (2 : Nat) (Option.some Jvm.ClassFile.FieldType.int)).before a0 Z = true := H.1 _ (List.mem_of_getElem? (i := 66) rfl)
theorem w67 (H : Hyp Z a0) : (Jvm.Cond.methodLink "java/util/Arrays" (150 : Nat) ({ cls := "java/lang/System", name := "arraycopy", desc := "(Ljava/lang/Object;ILjava/lang/Object;II)V" } : Jvm.MethodName)).before a0 Z = true := H.1 _ (List.mem_of_getElem? (i := 67) rfl)
theorem w68 (H : Hyp Z a0) : (Jvm.Cond.static ({ cls := "java/lang/System", name := "arraycopy", desc := "(Ljava/lang/Object;ILjava/lang/Object;II)V" } : Jvm.MethodName)).before a0 Z = true := H.1 _ (List.mem_of_getElem? (i := 68) rfl)
theorem w69 (H : Hyp Z a0) : (Jvm.Cond.initialized "java/lang/System").before a0 Z = true := H.1 _ (List.mem_of_getElem? (i := 69) rfl)
theorem w70 (H : Hyp Z a0) : (Jvm.Cond.native ({ cls := "java/lang/System", name := "arraycopy", desc := "(Ljava/lang/Object;ILjava/lang/Object;II)V" } : Jvm.MethodName)).before a0 Z = true := H.1 _ (List.mem_of_getElem? (i := 70) rfl)
end Facts
theorem lb {Z : State} {a0 : Array Value} (H : Hyp Z a0) : LB Z a0 := ⟨Or.inl (w11 H), Or.inl (w13 H), Or.inr (w18 H), Or.inr (w20 H), Or.inl (w32 H)⟩
theorem d4_0 : decode prog_6_method_3_code 0 = .ok (.iload_n 2, 1) := by decide +kernel
theorem d4_1 : decode prog_6_method_3_code 1 = .ok (.aload_n 0, 1) := by decide +kernel
theorem d4_2 : decode prog_6_method_3_code 2 = .ok (.getfield 7, 3) := by decide +kernel
theorem d4_5 : decode prog_6_method_3_code 5 = .ok (.arraylength, 1) := by decide +kernel
theorem d4_6 : decode prog_6_method_3_code 6 = .ok (.if_icmp .ge 20, 3) := by decide +kernel
theorem d4_9 : decode prog_6_method_3_code 9 = .ok (.aload_n 0, 1) := by decide +kernel
theorem d4_10 : decode prog_6_method_3_code 10 = .ok (.getfield 7, 3) := by decide +kernel
theorem d4_13 : decode prog_6_method_3_code 13 = .ok (.iload_n 2, 1) := by decide +kernel
theorem d4_14 : decode prog_6_method_3_code 14 = .ok (.baload, 1) := by decide +kernel
theorem d4_15 : decode prog_6_method_3_code 15 = .ok (.iconst 1, 1) := by decide +kernel
theorem d4_16 : decode prog_6_method_3_code 16 = .ok (.iload_n 1, 1) := by decide +kernel
theorem d4_17 : decode prog_6_method_3_code 17 = .ok (.ishl, 1) := by decide +kernel
theorem d4_18 : decode prog_6_method_3_code 18 = .ok (.iand, 1) := by decide +kernel
theorem d4_19 : decode prog_6_method_3_code 19 = .ok (.ifCond .eq 7, 3) := by decide +kernel
theorem d4_22 : decode prog_6_method_3_code 22 = .ok (.iconst 1, 1) := by decide +kernel
theorem d4_23 : decode prog_6_method_3_code 23 = .ok (.goto 4, 3) := by decide +kernel
theorem d4_26 : decode prog_6_method_3_code 26 = .ok (.iconst 0, 1) := by decide +kernel
theorem d4_27 : decode prog_6_method_3_code 27 = .ok (.ireturn, 1) := by decide +kernel
theorem d8_0 : decode prog_6_method_7_code 0 = .ok (.aload_n 0, 1) := by decide +kernel
theorem d8_1 : decode prog_6_method_7_code 1 = .ok (.getfield 53, 3) := by decide +kernel
theorem d8_4 : decode prog_6_method_7_code 4 = .ok (.ireturn, 1) := by decide +kernel
theorem d9_0 : decode prog_6_method_4_code 0 = .ok (.aload_n 0, 1) := by decide +kernel
theorem d9_1 : decode prog_6_method_4_code 1 = .ok (.getfield 30, 3) := by decide +kernel
theorem d9_4 : decode prog_6_method_4_code 4 = .ok (.iload_n 1, 1) := by decide +kernel
theorem d9_5 : decode prog_6_method_4_code 5 = .ok (.iaload, 1) := by decide +kernel
theorem d9_6 : decode prog_6_method_4_code 6 = .ok (.ireturn, 1) := by decide +kernel
theorem d11_0 : decode jdk_65_method_121_code 0 = .ok (.iload_n 1, 1) := by decide +kernel
theorem d11_1 : decode jdk_65_method_121_code 1 = .ok (.aload_n 0, 1) := by decide +kernel
theorem d11_2 : decode jdk_65_method_121_code 2 = .ok (.arraylength, 1) := by decide +kernel
theorem d11_3 : decode jdk_65_method_121_code 3 = .ok (.if_icmp .ne 11, 3) := by decide +kernel
theorem d11_14 : decode jdk_65_method_121_code 14 = .ok (.iload_n 1, 1) := by decide +kernel
theorem d11_15 : decode jdk_65_method_121_code 15 = .ok (.newarray .byte, 2) := by decide +kernel
theorem d11_17 : decode jdk_65_method_121_code 17 = .ok (.astore_n 2, 1) := by decide +kernel
theorem d11_18 : decode jdk_65_method_121_code 18 = .ok (.aload_n 0, 1) := by decide +kernel
theorem d11_19 : decode jdk_65_method_121_code 19 = .ok (.iconst 0, 1) := by decide +kernel
theorem d11_20 : decode jdk_65_method_121_code 20 = .ok (.aload_n 2, 1) := by decide +kernel
theorem d11_21 : decode jdk_65_method_121_code 21 = .ok (.iconst 0, 1) := by decide +kernel
theorem d11_22 : decode jdk_65_method_121_code 22 = .ok (.aload_n 0, 1) := by decide +kernel
theorem d11_23 : decode jdk_65_method_121_code 23 = .ok (.arraylength, 1) := by decide +kernel
theorem d11_24 : decode jdk_65_method_121_code 24 = .ok (.iload_n 1, 1) := by decide +kernel
theorem d11_25 : decode jdk_65_method_121_code 25 = .ok (.invokestatic 304, 3) := by decide +kernel
theorem d11_28 : decode jdk_65_method_121_code 28 = .ok (.invokestatic 150, 3) := by decide +kernel
theorem d11_31 : decode jdk_65_method_121_code 31 = .ok (.aload_n 2, 1) := by decide +kernel
theorem d11_32 : decode jdk_65_method_121_code 32 = .ok (.areturn, 1) := by decide +kernel
theorem d12_0 : decode jdk_29_method_69_code 0 = .ok (.iload_n 0, 1) := by decide +kernel
theorem d12_1 : decode jdk_29_method_69_code 1 = .ok (.iload_n 1, 1) := by decide +kernel
theorem d12_2 : decode jdk_29_method_69_code 2 = .ok (.if_icmp .gt 7, 3) := by decide +kernel
theorem d12_5 : decode jdk_29_method_69_code 5 = .ok (.iload_n 0, 1) := by decide +kernel
theorem d12_6 : decode jdk_29_method_69_code 6 = .ok (.goto 4, 3) := by decide +kernel
theorem d12_10 : decode jdk_29_method_69_code 10 = .ok (.ireturn, 1) := by decide +kernel
theorem d3_0 : decode prog_6_method_2_code 0 = .ok (.aload_n 0, 1) := by decide +kernel
theorem d3_1 : decode prog_6_method_2_code 1 = .ok (.iload_n 1, 1) := by decide +kernel
theorem d3_2 : decode prog_6_method_2_code 2 = .ok (.iload_n 2, 1) := by decide +kernel
theorem d3_3 : decode prog_6_method_2_code 3 = .ok (.invokevirtual 34, 3) := by decide +kernel
theorem d3_6 : decode prog_6_method_2_code 6 = .ok (.ifCond .eq 5, 3) := by decide +kernel
theorem d3_9 : decode prog_6_method_2_code 9 = .ok (.iconst 0, 1) := by decide +kernel
theorem d3_10 : decode prog_6_method_2_code 10 = .ok (.ireturn, 1) := by decide +kernel
theorem d3_11 : decode prog_6_method_2_code 11 = .ok (.iload_n 2, 1) := by decide +kernel
theorem d3_12 : decode prog_6_method_2_code 12 = .ok (.aload_n 0, 1) := by decide +kernel
theorem d3_13 : decode prog_6_method_2_code 13 = .ok (.getfield 7, 3) := by decide +kernel
theorem d3_16 : decode prog_6_method_2_code 16 = .ok (.arraylength, 1) := by decide +kernel
theorem d3_17 : decode prog_6_method_2_code 17 = .ok (.if_icmp .lt 27, 3) := by decide +kernel
theorem d3_20 : decode prog_6_method_2_code 20 = .ok (.aload_n 0, 1) := by decide +kernel
theorem d3_21 : decode prog_6_method_2_code 21 = .ok (.aload_n 0, 1) := by decide +kernel
theorem d3_22 : decode prog_6_method_2_code 22 = .ok (.getfield 7, 3) := by decide +kernel
theorem d3_25 : decode prog_6_method_2_code 25 = .ok (.iconst 2, 1) := by decide +kernel
theorem d3_26 : decode prog_6_method_2_code 26 = .ok (.aload_n 0, 1) := by decide +kernel
theorem d3_27 : decode prog_6_method_2_code 27 = .ok (.getfield 7, 3) := by decide +kernel
theorem d3_30 : decode prog_6_method_2_code 30 = .ok (.arraylength, 1) := by decide +kernel
theorem d3_31 : decode prog_6_method_2_code 31 = .ok (.imul, 1) := by decide +kernel
theorem d3_32 : decode prog_6_method_2_code 32 = .ok (.iload_n 2, 1) := by decide +kernel
theorem d3_33 : decode prog_6_method_2_code 33 = .ok (.iconst 1, 1) := by decide +kernel
theorem d3_34 : decode prog_6_method_2_code 34 = .ok (.iadd, 1) := by decide +kernel
theorem d3_35 : decode prog_6_method_2_code 35 = .ok (.invokestatic 38, 3) := by decide +kernel
theorem d3_38 : decode prog_6_method_2_code 38 = .ok (.invokestatic 44, 3) := by decide +kernel
theorem d3_41 : decode prog_6_method_2_code 41 = .ok (.putfield 7, 3) := by decide +kernel
theorem d3_44 : decode prog_6_method_2_code 44 = .ok (.aload_n 0, 1) := by decide +kernel
theorem d3_45 : decode prog_6_method_2_code 45 = .ok (.getfield 7, 3) := by decide +kernel
theorem d3_48 : decode prog_6_method_2_code 48 = .ok (.iload_n 2, 1) := by decide +kernel
theorem d3_49 : decode prog_6_method_2_code 49 = .ok (.dup2, 1) := by decide +kernel
theorem d3_50 : decode prog_6_method_2_code 50 = .ok (.baload, 1) := by decide +kernel
theorem d3_51 : decode prog_6_method_2_code 51 = .ok (.iconst 1, 1) := by decide +kernel
theorem d3_52 : decode prog_6_method_2_code 52 = .ok (.iload_n 1, 1) := by decide +kernel
theorem d3_53 : decode prog_6_method_2_code 53 = .ok (.ishl, 1) := by decide +kernel
theorem d3_54 : decode prog_6_method_2_code 54 = .ok (.i2b, 1) := by decide +kernel
theorem d3_55 : decode prog_6_method_2_code 55 = .ok (.ior, 1) := by decide +kernel
theorem d3_56 : decode prog_6_method_2_code 56 = .ok (.i2b, 1) := by decide +kernel
theorem d3_57 : decode prog_6_method_2_code 57 = .ok (.bastore, 1) := by decide +kernel
theorem d3_58 : decode prog_6_method_2_code 58 = .ok (.aload_n 0, 1) := by decide +kernel
theorem d3_59 : decode prog_6_method_2_code 59 = .ok (.getfield 30, 3) := by decide +kernel
theorem d3_62 : decode prog_6_method_2_code 62 = .ok (.iload_n 1, 1) := by decide +kernel
theorem d3_63 : decode prog_6_method_2_code 63 = .ok (.iaload, 1) := by decide +kernel
theorem d3_64 : decode prog_6_method_2_code 64 = .ok (.aload_n 0, 1) := by decide +kernel
theorem d3_65 : decode prog_6_method_2_code 65 = .ok (.getfield 27, 3) := by decide +kernel
theorem d3_68 : decode prog_6_method_2_code 68 = .ok (.iload_n 1, 1) := by decide +kernel
theorem d3_69 : decode prog_6_method_2_code 69 = .ok (.aaload, 1) := by decide +kernel
theorem d3_70 : decode prog_6_method_2_code 70 = .ok (.arraylength, 1) := by decide +kernel
theorem d3_71 : decode prog_6_method_2_code 71 = .ok (.if_icmp .ne 26, 3) := by decide +kernel
theorem d3_97 : decode prog_6_method_2_code 97 = .ok (.aload_n 0, 1) := by decide +kernel
theorem d3_98 : decode prog_6_method_2_code 98 = .ok (.getfield 27, 3) := by decide +kernel
theorem d3_101 : decode prog_6_method_2_code 101 = .ok (.iload_n 1, 1) := by decide +kernel
theorem d3_102 : decode prog_6_method_2_code 102 = .ok (.aaload, 1) := by decide +kernel
theorem d3_103 : decode prog_6_method_2_code 103 = .ok (.aload_n 0, 1) := by decide +kernel
theorem d3_104 : decode prog_6_method_2_code 104 = .ok (.getfield 30, 3) := by decide +kernel
theorem d3_107 : decode prog_6_method_2_code 107 = .ok (.iload_n 1, 1) := by decide +kernel
theorem d3_108 : decode prog_6_method_2_code 108 = .ok (.dup2, 1) := by decide +kernel
theorem d3_109 : decode prog_6_method_2_code 109 = .ok (.iaload, 1) := by decide +kernel
theorem d3_110 : decode prog_6_method_2_code 110 = .ok (.dup_x2, 1) := by decide +kernel
theorem d3_111 : decode prog_6_method_2_code 111 = .ok (.iconst 1, 1) := by decide +kernel
theorem d3_112 : decode prog_6_method_2_code 112 = .ok (.iadd, 1) := by decide +kernel
theorem d3_113 : decode prog_6_method_2_code 113 = .ok (.iastore, 1) := by decide +kernel
theorem d3_114 : decode prog_6_method_2_code 114 = .ok (.iload_n 2, 1) := by decide +kernel
theorem d3_115 : decode prog_6_method_2_code 115 = .ok (.iastore, 1) := by decide +kernel
theorem d3_116 : decode prog_6_method_2_code 116 = .ok (.aload_n 0, 1) := by decide +kernel
theorem d3_117 : decode prog_6_method_2_code 117 = .ok (.getfield 53, 3) := by decide +kernel
theorem d3_120 : decode prog_6_method_2_code 120 = .ok (.aload_n 0, 1) := by decide +kernel
theorem d3_121 : decode prog_6_method_2_code 121 = .ok (.getfield 13, 3) := by decide +kernel
theorem d3_124 : decode prog_6_method_2_code 124 = .ok (.arraylength, 1) := by decide +kernel
theorem d3_125 : decode prog_6_method_2_code 125 = .ok (.if_icmp .ne 20, 3) := by decide +kernel
theorem d3_145 : decode prog_6_method_2_code 145 = .ok (.aload_n 0, 1) := by decide +kernel
theorem d3_146 : decode prog_6_method_2_code 146 = .ok (.getfield 13, 3) := by decide +kernel
theorem d3_149 : decode prog_6_method_2_code 149 = .ok (.aload_n 0, 1) := by decide +kernel
theorem d3_150 : decode prog_6_method_2_code 150 = .ok (.dup, 1) := by decide +kernel
theorem d3_151 : decode prog_6_method_2_code 151 = .ok (.getfield 53, 3) := by decide +kernel
theorem d3_154 : decode prog_6_method_2_code 154 = .ok (.dup_x1, 1) := by decide +kernel
theorem d3_155 : decode prog_6_method_2_code 155 = .ok (.iconst 1, 1) := by decide +kernel
theorem d3_156 : decode prog_6_method_2_code 156 = .ok (.iadd, 1) := by decide +kernel
theorem d3_157 : decode prog_6_method_2_code 157 = .ok (.putfield 53, 3) := by decide +kernel
theorem d3_160 : decode prog_6_method_2_code 160 = .ok (.iload_n 1, 1) := by decide +kernel
theorem d3_161 : decode prog_6_method_2_code 161 = .ok (.i2b, 1) := by decide +kernel
theorem d3_162 : decode prog_6_method_2_code 162 = .ok (.bastore, 1) := by decide +kernel
theorem d3_163 : decode prog_6_method_2_code 163 = .ok (.iconst 1, 1) := by decide +kernel
theorem d3_164 : decode prog_6_method_2_code 164 = .ok (.ireturn, 1) := by decide +kernel
theorem d10_0 : decode jdk_29_method_65_code 0 = .ok (.iload_n 0, 1) := by decide +kernel
theorem d10_1 : decode jdk_29_method_65_code 1 = .ok (.iload_n 1, 1) := by decide +kernel
theorem d10_2 : decode jdk_29_method_65_code 2 = .ok (.if_icmp .lt 7, 3) := by decide +kernel
theorem d10_5 : decode jdk_29_method_65_code 5 = .ok (.iload_n 0, 1) := by decide +kernel
theorem d10_6 : decode jdk_29_method_65_code 6 = .ok (.goto 4, 3) := by decide +kernel
theorem d10_9 : decode jdk_29_method_65_code 9 = .ok (.iload_n 1, 1) := by decide +kernel
theorem d10_10 : decode jdk_29_method_65_code 10 = .ok (.ireturn, 1) := by decide +kernel
theorem d7_0 : decode prog_6_method_8_code 0 = .ok (.aload_n 0, 1) := by decide +kernel
theorem d7_1 : decode prog_6_method_8_code 1 = .ok (.getfield 53, 3) := by decide +kernel
theorem d7_4 : decode prog_6_method_8_code 4 = .ok (.iload_n 1, 1) := by decide +kernel
theorem d7_5 : decode prog_6_method_8_code 5 = .ok (.if_icmp .le 58, 3) := by decide +kernel
theorem d7_8 : decode prog_6_method_8_code 8 = .ok (.aload_n 0, 1) := by decide +kernel
theorem d7_9 : decode prog_6_method_8_code 9 = .ok (.getfield 13, 3) := by decide +kernel
theorem d7_12 : decode prog_6_method_8_code 12 = .ok (.aload_n 0, 1) := by decide +kernel
theorem d7_13 : decode prog_6_method_8_code 13 = .ok (.dup, 1) := by decide +kernel
theorem d7_14 : decode prog_6_method_8_code 14 = .ok (.getfield 53, 3) := by decide +kernel
theorem d7_17 : decode prog_6_method_8_code 17 = .ok (.iconst 1, 1) := by decide +kernel
theorem d7_18 : decode prog_6_method_8_code 18 = .ok (.isub, 1) := by decide +kernel
theorem d7_19 : decode prog_6_method_8_code 19 = .ok (.dup_x1, 1) := by decide +kernel
theorem d7_20 : decode prog_6_method_8_code 20 = .ok (.putfield 53, 3) := by decide +kernel
theorem d7_23 : decode prog_6_method_8_code 23 = .ok (.baload, 1) := by decide +kernel
theorem d7_24 : decode prog_6_method_8_code 24 = .ok (.istore_n 2, 1) := by decide +kernel
theorem d7_25 : decode prog_6_method_8_code 25 = .ok (.aload_n 0, 1) := by decide +kernel
theorem d7_26 : decode prog_6_method_8_code 26 = .ok (.getfield 27, 3) := by decide +kernel
theorem d7_29 : decode prog_6_method_8_code 29 = .ok (.iload_n 2, 1) := by decide +kernel
theorem d7_30 : decode prog_6_method_8_code 30 = .ok (.aaload, 1) := by decide +kernel
theorem d7_31 : decode prog_6_method_8_code 31 = .ok (.aload_n 0, 1) := by decide +kernel
theorem d7_32 : decode prog_6_method_8_code 32 = .ok (.getfield 30, 3) := by decide +kernel
theorem d7_35 : decode prog_6_method_8_code 35 = .ok (.iload_n 2, 1) := by decide +kernel
theorem d7_36 : decode prog_6_method_8_code 36 = .ok (.dup2, 1) := by decide +kernel
theorem d7_37 : decode prog_6_method_8_code 37 = .ok (.iaload, 1) := by decide +kernel
theorem d7_38 : decode prog_6_method_8_code 38 = .ok (.iconst 1, 1) := by decide +kernel
theorem d7_39 : decode prog_6_method_8_code 39 = .ok (.isub, 1) := by decide +kernel
theorem d7_40 : decode prog_6_method_8_code 40 = .ok (.dup_x2, 1) := by decide +kernel
theorem d7_41 : decode prog_6_method_8_code 41 = .ok (.iastore, 1) := by decide +kernel
theorem d7_42 : decode prog_6_method_8_code 42 = .ok (.iaload, 1) := by decide +kernel
theorem d7_43 : decode prog_6_method_8_code 43 = .ok (.istore_n 3, 1) := by decide +kernel
theorem d7_44 : decode prog_6_method_8_code 44 = .ok (.aload_n 0, 1) := by decide +kernel
theorem d7_45 : decode prog_6_method_8_code 45 = .ok (.getfield 7, 3) := by decide +kernel
theorem d7_48 : decode prog_6_method_8_code 48 = .ok (.iload_n 3, 1) := by decide +kernel
theorem d7_49 : decode prog_6_method_8_code 49 = .ok (.dup2, 1) := by decide +kernel
theorem d7_50 : decode prog_6_method_8_code 50 = .ok (.baload, 1) := by decide +kernel
theorem d7_51 : decode prog_6_method_8_code 51 = .ok (.iconst 1, 1) := by decide +kernel
theorem d7_52 : decode prog_6_method_8_code 52 = .ok (.iload_n 2, 1) := by decide +kernel
theorem d7_53 : decode prog_6_method_8_code 53 = .ok (.ishl, 1) := by decide +kernel
theorem d7_54 : decode prog_6_method_8_code 54 = .ok (.iconst (-1), 1) := by decide +kernel
theorem d7_55 : decode prog_6_method_8_code 55 = .ok (.ixor, 1) := by decide +kernel
theorem d7_56 : decode prog_6_method_8_code 56 = .ok (.i2b, 1) := by decide +kernel
theorem d7_57 : decode prog_6_method_8_code 57 = .ok (.iand, 1) := by decide +kernel
theorem d7_58 : decode prog_6_method_8_code 58 = .ok (.i2b, 1) := by decide +kernel
theorem d7_59 : decode prog_6_method_8_code 59 = .ok (.bastore, 1) := by decide +kernel
theorem d7_60 : decode prog_6_method_8_code 60 = .ok (.goto (-60), 3) := by decide +kernel
theorem d7_63 : decode prog_6_method_8_code 63 = .ok (.return_, 1) := by decide +kernel
theorem d1_0 : decode prog_6_method_1_code 0 = .ok (.aload_n 0, 1) := by decide +kernel
theorem d1_1 : decode prog_6_method_1_code 1 = .ok (.invokespecial 1, 3) := by decide +kernel
theorem d1_4 : decode prog_6_method_1_code 4 = .ok (.aload_n 0, 1) := by decide +kernel
theorem d1_5 : decode prog_6_method_1_code 5 = .ok (.bipush 64, 2) := by decide +kernel
theorem d1_7 : decode prog_6_method_1_code 7 = .ok (.newarray .byte, 2) := by decide +kernel
theorem d1_9 : decode prog_6_method_1_code 9 = .ok (.putfield 7, 3) := by decide +kernel
theorem d1_12 : decode prog_6_method_1_code 12 = .ok (.aload_n 0, 1) := by decide +kernel
theorem d1_13 : decode prog_6_method_1_code 13 = .ok (.bipush 64, 2) := by decide +kernel
theorem d1_15 : decode prog_6_method_1_code 15 = .ok (.newarray .byte, 2) := by decide +kernel
theorem d1_17 : decode prog_6_method_1_code 17 = .ok (.putfield 13, 3) := by decide +kernel
theorem d1_20 : decode prog_6_method_1_code 20 = .ok (.iload_n 1, 1) := by decide +kernel
theorem d1_21 : decode prog_6_method_1_code 21 = .ok (.bipush 8, 2) := by decide +kernel
theorem d1_23 : decode prog_6_method_1_code 23 = .ok (.if_icmp .le 17, 3) := by decide +kernel
theorem d1_40 : decode prog_6_method_1_code 40 = .ok (.aload_n 0, 1) := by decide +kernel
theorem d1_41 : decode prog_6_method_1_code 41 = .ok (.iload_n 1, 1) := by decide +kernel
theorem d1_42 : decode prog_6_method_1_code 42 = .ok (.bipush 16, 2) := by decide +kernel
theorem d1_44 : decode prog_6_method_1_code 44 = .ok (.multianewarray 25 2, 4) := by decide +kernel
theorem d1_48 : decode prog_6_method_1_code 48 = .ok (.putfield 27, 3) := by decide +kernel
theorem d1_51 : decode prog_6_method_1_code 51 = .ok (.aload_n 0, 1) := by decide +kernel
theorem d1_52 : decode prog_6_method_1_code 52 = .ok (.iload_n 1, 1) := by decide +kernel
theorem d1_53 : decode prog_6_method_1_code 53 = .ok (.newarray .int, 2) := by decide +kernel
theorem d1_55 : decode prog_6_method_1_code 55 = .ok (.putfield 30, 3) := by decide +kernel
theorem d1_58 : decode prog_6_method_1_code 58 = .ok (.return_, 1) := by decide +kernel
theorem d6_0 : decode method_3_code 0 = .ok (.iload_n 0, 1) := by decide +kernel
theorem d6_1 : decode method_3_code 1 = .ok (.ifCond .eq 7, 3) := by decide +kernel
theorem d6_4 : decode method_3_code 4 = .ok (.iconst 1, 1) := by decide +kernel
theorem d6_5 : decode method_3_code 5 = .ok (.goto 4, 3) := by decide +kernel
theorem d6_8 : decode method_3_code 8 = .ok (.iconst 0, 1) := by decide +kernel
theorem d6_9 : decode method_3_code 9 = .ok (.ireturn, 1) := by decide +kernel
theorem d5_0 : decode method_2_code 0 = .ok (.iload_n 0, 1) := by decide +kernel
theorem d5_1 : decode method_2_code 1 = .ok (.iload_n 2, 1) := by decide +kernel
theorem d5_2 : decode method_2_code 2 = .ok (.if_icmp .ne 12, 3) := by decide +kernel
theorem d5_5 : decode method_2_code 5 = .ok (.iload_n 1, 1) := by decide +kernel
theorem d5_6 : decode method_2_code 6 = .ok (.iload_n 3, 1) := by decide +kernel
theorem d5_7 : decode method_2_code 7 = .ok (.if_icmp .ne 7, 3) := by decide +kernel
theorem d5_10 : decode method_2_code 10 = .ok (.iconst 1, 1) := by decide +kernel
theorem d5_11 : decode method_2_code 11 = .ok (.goto 4, 3) := by decide +kernel
theorem d5_14 : decode method_2_code 14 = .ok (.iconst 0, 1) := by decide +kernel
theorem d5_15 : decode method_2_code 15 = .ok (.ireturn, 1) := by decide +kernel
theorem pd_0 : parseMethodDescriptor "(II)I" = some ⟨[.int, .int], some .int⟩ := by decide +kernel
theorem pd_1 : parseMethodDescriptor "(II)Z" = some ⟨[.int, .int], some .boolean⟩ := by decide +kernel
theorem pd_2 : parseMethodDescriptor "([BI)[B" = some ⟨[(.array .byte), .int], some (.array .byte)⟩ := by decide +kernel
theorem pd_3 : parseMethodDescriptor "(I)V" = some ⟨[.int], none⟩ := by decide +kernel
theorem pd_4 : parseMethodDescriptor "(Z)I" = some ⟨[.boolean], some .int⟩ := by decide +kernel
theorem pd_5 : parseMethodDescriptor "()I" = some ⟨[], some .int⟩ := by decide +kernel
theorem pd_6 : parseMethodDescriptor "(I)I" = some ⟨[.int], some .int⟩ := by decide +kernel
theorem pd_7 : parseMethodDescriptor "(IIII)Z" = some ⟨[.int, .int, .int, .int], some .boolean⟩ := by decide +kernel
theorem pn_com_example_stets_stets_automaton_BranchSets : plainName "com/example/stets/stets/automaton/BranchSets" = true := by first | (simp [plainName, overriddenIn]; done) | decide +kernel
theorem pn_com_example_stets_stets_automaton_BranchSetsUndoToPinLaw : plainName "com/example/stets/stets/automaton/BranchSetsUndoToPinLaw" = true := by first | (simp [plainName, overriddenIn]; done) | decide +kernel
theorem pn_java_util_Arrays : plainName "java/util/Arrays" = true := by first | (simp [plainName, overriddenIn]; done) | decide +kernel
theorem ef_0 (m : MethodId) (x0 : Addr) (x1 : Int32) (x2 : Int32) : entryFrame m #[(.ref x0), (.int x1), (.int x2)] 3 = mkF m 0 #[.val (.ref x0), .val (.int x1), .val (.int x2)] [] := by first | (simp [entryFrame, mkF, argsToLocals, Value.category]; done) | rfl
theorem ef_1 (m : MethodId) (x0 : Addr) : entryFrame m #[(.ref x0)] 1 = mkF m 0 #[.val (.ref x0)] [] := by first | (simp [entryFrame, mkF, argsToLocals, Value.category]; done) | rfl
theorem ef_2 (m : MethodId) (x0 : Addr) (x1 : Int32) : entryFrame m #[(.ref x0), (.int x1)] 2 = mkF m 0 #[.val (.ref x0), .val (.int x1)] [] := by first | (simp [entryFrame, mkF, argsToLocals, Value.category]; done) | rfl
theorem ef_3 (m : MethodId) (x0 : Int32) (x1 : Int32) : entryFrame m #[(.int x0), (.int x1)] 2 = mkF m 0 #[.val (.int x0), .val (.int x1)] [] := by first | (simp [entryFrame, mkF, argsToLocals, Value.category]; done) | rfl
theorem ef_4 (m : MethodId) (x0 : Addr) (x1 : Int32) : entryFrame m #[(.ref x0), (.int x1)] 3 = mkF m 0 #[.val (.ref x0), .val (.int x1), .unset] [] := by first | (simp [entryFrame, mkF, argsToLocals, Value.category]; done) | rfl
theorem ef_5 (m : MethodId) (x0 : Addr) (x1 : Int32) : entryFrame m #[(.ref x0), (.int x1)] 4 = mkF m 0 #[.val (.ref x0), .val (.int x1), .unset, .unset] [] := by first | (simp [entryFrame, mkF, argsToLocals, Value.category]; done) | rfl
theorem ef_6 (m : MethodId) (x0 : Int32) : entryFrame m #[(.int x0)] 1 = mkF m 0 #[.val (.int x0)] [] := by first | (simp [entryFrame, mkF, argsToLocals, Value.category]; done) | rfl
theorem ef_7 (m : MethodId) (x0 : Int32) (x1 : Int32) (x2 : Int32) (x3 : Int32) : entryFrame m #[(.int x0), (.int x1), (.int x2), (.int x3)] 4 = mkF m 0 #[.val (.int x0), .val (.int x1), .val (.int x2), .val (.int x3)] [] := by first | (simp [entryFrame, mkF, argsToLocals, Value.category]; done) | rfl
theorem ef_8 (m : MethodId) (x0 : Int32) (x1 : Int32) (x2 : Int32) (x3 : Int32) : entryFrame m #[(.int x0), (.int x1), (.int x2), (.int x3)] maxLocals = mkF m 0 #[.val (.int x0), .val (.int x1), .val (.int x2), .val (.int x3), .unset, .unset, .unset, .unset, .unset, .unset, .unset, .unset, .unset, .unset, .unset, .unset, .unset, .unset, .unset, .unset, .unset, .unset, .unset, .unset, .unset, .unset, .unset, .unset] [] := by first | (simp [entryFrame, mkF, argsToLocals, Value.category, maxLocals]; done) | rfl
set_option maxRecDepth 65536 in
set_option maxHeartbeats 40000000 in
theorem rmC (l : Launch) {Z : State} {a0 : Array Value} (H : Hyp Z a0) (b : Addr) (cnt sv fv : Int32) (FB : Int) (sk : Stk) (h0 : Heap) (Ol : Old Z Z.heap.size h0) (hB : BI Z h0 b cnt FB sk) (hs0 : 0 ≤ sv.toInt) (hs1 : sv.toInt < cnt.toInt) (hf0 : 0 ≤ fv.toInt) :
    Mt l Z (⟨"com/example/stets/stets/automaton/BranchSets", "contains", "(II)Z"⟩ : MethodName) prog_6_method_3_code 3 (some .boolean) [] ({ frames := 0, cells := 0, slots := 0, locals := 0 } : Room) #[(.ref b), (.int sv), (.int fv)] h0 (fun v h L => v = some (.int (if (sv, fv) ∈ sk then 1 else 0)) ∧ Fr Z.heap.size L ∧ h = h0) := by
  refine g_body (plainFor_of_name pn_com_example_stets_stets_automaton_BranchSets) ?_
  intro p e s m below meth c T0 K X0 e0
  refine g_entry (ef_0 m b sv fv) ?_
  have N0 : Fr Z.heap.size [] := Fr.nil _
  have Ol0 := Ol
  obtain ⟨fa, ta, ma, sa, kf, kt, km, ki, ks, fn, fl, tr, sz, mf, HB0, PI0, hfn, hFB, hk1, hk8⟩ := hB
  have hs8 : sv.toInt < 8 := by omega
  have nfv : ¬ (fv < (0 : Int32)) := by rw [Int32.lt_iff_toInt_lt]; have : (0 : Int32).toInt = 0 := rfl; omega
  refine g_iloadN X0 K (q := 1) d4_0 rfl rfl ?_
  refine g_aloadN X0 K (q := 2) d4_1 rfl rfl rfl ?_
  refine g_getf X0 K (q := 5) (w10 H) Via.refl e0 HB0.fF d4_2 rfl ?_
  intro T1 X1 e1
  refine g_lenF X1 K (q := 6) e1 HB0.aF d4_5 rfl ?_
  by_cases hc1 : fv < fn
  · refine g_icN X1 K (q := 9) d4_6 (tlt hc1).2.1 rfl ?_
    refine g_aloadN X1 K (q := 10) d4_9 rfl rfl rfl ?_
    refine g_getf X1 K (q := 13) (w10 H) Via.refl e1 HB0.fF d4_10 rfl ?_
    intro T2 X2 e2
    refine g_iloadN X2 K (q := 14) d4_13 rfl rfl ?_
    refine g_balF X2 K (q := 15) (z := (fl fv.toNatClampNeg)) e2 HB0.aF ⟨nfv, hc1⟩ rfl d4_14 rfl ?_
    refine g_iconst X2 K (q := 16) (v := (1 : Int32)) d4_15 (by decide) rfl ?_
    refine g_iloadN X2 K (q := 17) d4_16 rfl rfl ?_
    refine g_ishl X2 K (q := 18) d4_17 rfl rfl ?_
    refine g_iand X2 K (q := 19) d4_18 rfl rfl ?_
    by_cases hc2 : ((fl fv.toNatClampNeg) &&& ((1 : Int32) <<< (sv &&& 31))) = (0 : Int32)
    · refine g_ifY X2 K (q := 26) d4_19 (teq hc2).1 (by decide) (by decide) ?_
      refine g_iconst X2 K (q := 27) (v := (0 : Int32)) d4_26 (by decide) rfl ?_
      refine g_nret X2 K (by simp) (z' := (0 : Int32)) (by decide) d4_27 (by decide) (by decide) ?_
      have hlt := Int32.lt_iff_toInt_lt.mp hc1
      have hnm : (sv, fv) ∉ sk := fun q => absurd ((bt_and0 hs0 hs8).mp hc2) (by rw [(PI0.2.1 sv fv hs0 hs8 hf0 hlt).mpr q]; decide)
      exact ⟨by rw [if_neg hnm], N0, e2⟩
    · refine g_ifN X2 K (q := 22) d4_19 (feq hc2).1 rfl ?_
      refine g_iconst X2 K (q := 23) (v := (1 : Int32)) d4_22 (by decide) rfl ?_
      refine g_goto X2 K (q := 27) d4_23 (by decide) (by decide) ?_
      refine g_nret X2 K (by simp) (z' := (1 : Int32)) (by decide) d4_27 (by decide) (by decide) ?_
      have hlt := Int32.lt_iff_toInt_lt.mp hc1
      have hym : (sv, fv) ∈ sk := (PI0.2.1 sv fv hs0 hs8 hf0 hlt).mp (by cases hq : bt (fl fv.toNatClampNeg) sv with | true => rfl | false => exact absurd ((bt_and0 hs0 hs8).mpr hq) hc2)
      exact ⟨by rw [if_pos hym], N0, e2⟩
  · refine g_icY X1 K (q := 26) d4_6 (flt hc1).2.1 (by decide) (by decide) ?_
    refine g_iconst X1 K (q := 27) (v := (0 : Int32)) d4_26 (by decide) rfl ?_
    refine g_nret X1 K (by simp) (z' := (0 : Int32)) (by decide) d4_27 (by decide) (by decide) ?_
    have hbig : fn.toInt ≤ fv.toInt := Int.not_lt.mp fun q => hc1 (Int32.lt_iff_toInt_lt.mpr q)
    exact ⟨by rw [if_neg (PI0.not_big hbig)], N0, e1⟩
set_option maxRecDepth 65536 in
set_option maxHeartbeats 40000000 in
theorem rmM (l : Launch) {Z : State} {a0 : Array Value} (H : Hyp Z a0) (b : Addr) (cnt : Int32) (FB : Int) (sk : Stk) (h0 : Heap) (Ol : Old Z Z.heap.size h0) (hB : BI Z h0 b cnt FB sk) :
    Mt l Z (⟨"com/example/stets/stets/automaton/BranchSets", "mark", "()I"⟩ : MethodName) prog_6_method_7_code 1 (some .int) [] ({ frames := 0, cells := 0, slots := 0, locals := 0 } : Room) #[(.ref b)] h0 (fun v h L => v = some (.int (Int32.ofNat sk.length)) ∧ Fr Z.heap.size L ∧ h = h0) := by
  refine g_body (plainFor_of_name pn_com_example_stets_stets_automaton_BranchSets) ?_
  intro p e s m below meth c T0 K X0 e0
  refine g_entry (ef_1 m b) ?_
  have N0 : Fr Z.heap.size [] := Fr.nil _
  have Ol0 := Ol
  obtain ⟨fa, ta, ma, sa, kf, kt, km, ki, ks, fn, fl, tr, sz, mf, HB0, PI0, hfn, hFB, hk1, hk8⟩ := hB
  refine g_aloadN X0 K (q := 1) d8_0 rfl rfl rfl ?_
  refine g_getf X0 K (q := 4) (w31 H) Via.refl e0 HB0.fN d8_1 rfl ?_
  intro T1 X1 e1
  refine g_iret X1 K d8_4 (by decide) (by decide) ?_
  exact ⟨rfl, N0, e1⟩
set_option maxRecDepth 65536 in
set_option maxHeartbeats 40000000 in
theorem rmS (l : Launch) {Z : State} {a0 : Array Value} (H : Hyp Z a0) (b : Addr) (cnt sv : Int32) (FB : Int) (sk : Stk) (h0 : Heap) (Ol : Old Z Z.heap.size h0) (hB : BI Z h0 b cnt FB sk) (hs0 : 0 ≤ sv.toInt) (hs1 : sv.toInt < cnt.toInt) :
    Mt l Z (⟨"com/example/stets/stets/automaton/BranchSets", "size", "(I)I"⟩ : MethodName) prog_6_method_4_code 2 (some .int) [] ({ frames := 0, cells := 0, slots := 0, locals := 0 } : Room) #[(.ref b), (.int sv)] h0 (fun v h L => v = some (.int (Int32.ofNat (cntS sk sv))) ∧ Fr Z.heap.size L ∧ h = h0) := by
  refine g_body (plainFor_of_name pn_com_example_stets_stets_automaton_BranchSets) ?_
  intro p e s m below meth c T0 K X0 e0
  refine g_entry (ef_2 m b sv) ?_
  have N0 : Fr Z.heap.size [] := Fr.nil _
  have Ol0 := Ol
  obtain ⟨fa, ta, ma, sa, kf, kt, km, ki, ks, fn, fl, tr, sz, mf, HB0, PI0, hfn, hFB, hk1, hk8⟩ := hB
  refine g_aloadN X0 K (q := 1) d9_0 rfl rfl rfl ?_
  refine g_getf X0 K (q := 4) (w19 H) Via.refl e0 HB0.fS d9_1 rfl ?_
  intro T1 X1 e1
  refine g_iloadN X1 K (q := 5) d9_4 rfl rfl ?_
  refine g_ialF X1 K (q := 6) (z := (Int32.ofNat (cntS sk sv))) e1 HB0.aS (inb hs0 hs1) (PI0.2.2.1 sv hs0 hs1) d9_5 rfl ?_
  refine g_iret X1 K d9_6 (by decide) (by decide) ?_
  exact ⟨rfl, N0, e1⟩
set_option maxRecDepth 65536 in
set_option maxHeartbeats 40000000 in
theorem rm12_3 (l : Launch) {Z : State} {a0 : Array Value} (H : Hyp Z a0) (p1 : Int32) (p2 : Int32) (h0 : Heap) (Ol : Old Z Z.heap.size h0) (hc_1 : ¬ (p2 < p1)) :
    Mt l Z (⟨"java/lang/Math", "min", "(II)I"⟩ : MethodName) jdk_29_method_69_code 2 (some .int) [] ({ frames := 0, cells := 0, slots := 0, locals := 0 } : Room) #[(.int p1), (.int p2)] h0 (fun v h L => (v = some (.int p1) ∧ Fr Z.heap.size L ∧ h = h0)) := by
  refine g_body (Jvm.Free.JP.mathPlain rfl (by decide +kernel)) ?_
  intro p e s m below meth c T0 K X0 e0
  refine g_entry (ef_3 m p1 p2) ?_
  have N0 : Fr Z.heap.size [] := Fr.nil _
  have Ol0 := Ol
  have Kp0 : Keep h0 h0 [] := Keep.refl h0 _
  refine g_iloadN X0 K (q := 1) d12_0 rfl rfl ?_
  refine g_iloadN X0 K (q := 2) d12_1 rfl rfl ?_
  refine g_icN X0 K (q := 5) d12_2 (flt hc_1).2.2.1 rfl ?_
  refine g_iloadN X0 K (q := 6) d12_5 rfl rfl ?_
  refine g_goto X0 K (q := 10) d12_6 (by decide) (by decide) ?_
  refine g_iret X0 K d12_10 (by decide) (by decide) ?_
  exact ⟨rfl, N0, e0⟩
set_option maxRecDepth 65536 in
set_option maxHeartbeats 40000000 in
theorem rmK (l : Launch) {Z : State} {a0 : Array Value} (H : Hyp Z a0) (a : Addr) (ka : ClassId) (zo zn : Int32) (fo : Nat → Int32) (h0 : Heap) (Ol : Old Z Z.heap.size h0) (hA : Arf Z h0 a ka .byte zo fo) (hz0 : 0 ≤ zo.toInt) (hlt : zo.toInt < zn.toInt) (hcap : zn.toInt ≤ 128) :
    Mt l Z (⟨"java/util/Arrays", "copyOf", "([BI)[B"⟩ : MethodName) jdk_65_method_121_code 3 (some (.array .byte)) [] ({ frames := 1, cells := 1, slots := 128, locals := 18 } : Room) #[(.ref a), (.int zn)] h0 (fun v h L => ∃ (bn : Addr) (kn : ClassId), v = some (.ref bn) ∧ Fr Z.heap.size L ∧ Keep h0 h [] ∧ h0.size ≤ bn ∧ Arf Z h bn kn .byte zn (fun i => if i < zo.toNatClampNeg then fo i else 0)) := by
  refine g_body (plainFor_of_name pn_java_util_Arrays) ?_
  intro p e s m below meth c T0 K X0 e0
  refine g_entry (ef_4 m a zn) ?_
  have N0 : Fr Z.heap.size [] := Fr.nil _
  have Ol0 := Ol
  have Kp0 : Keep h0 h0 [] := Keep.refl h0 _
  have hne : ¬ (zn = zo) := fun q => by rw [q] at hlt; omega
  have hgt : ¬ (zn < zo) := by rw [Int32.lt_iff_toInt_lt]; omega
  have hz' : ¬ (zo < (0 : Int32)) := by rw [Int32.lt_iff_toInt_lt]; have : (0 : Int32).toInt = 0 := rfl; omega
  have hn' : ¬ (zn < (0 : Int32)) := by rw [Int32.lt_iff_toInt_lt]; have : (0 : Int32).toInt = 0 := rfl; omega
  refine g_iloadN X0 K (q := 1) d11_0 rfl rfl ?_
  refine g_aloadN X0 K (q := 2) d11_1 rfl rfl rfl ?_
  refine g_lenF X0 K (q := 3) e0 hA d11_2 rfl ?_
  refine g_icY X0 K (q := 14) d11_3 (feq hne).2 (by decide) (by decide) ?_
  refine g_iloadN X0 K (q := 15) d11_14 rfl rfl ?_
  refine g_newp X0 K (q := 17) (cap := 128) (ty := .byte) (vs := List.replicate 128 (.int (0 : Int32))) (w9 H) rfl e0 d11_15 hn' (by simp only [Int32.toNatClampNeg]; omega) rfl (by decide) (by decide) (by decide) rfl ?_
  intro T1 h1 b1 kA1 X1 e1 E1 z1 A1q
  have A1 := Arf.of_rep A1q (by simp only [Int32.toNatClampNeg]; omega)
  have sz1 : h0.size ≤ b1 := Nat.le_trans Kp0.1 (Nat.le_of_eq z1)
  have ge1 : Z.heap.size ≤ b1 := Nat.le_trans Ol0.2.1 (Nat.le_of_eq z1)
  have Ol1 := Ol0.ext E1
  have Kp1 := Kp0.ext E1
  refine g_astoreN X1 K (q := 18) (L' := #[.val (.ref a), .val (.int zn), .val (.ref b1)]) d11_17 rfl rfl rfl ?_
  refine g_aloadN X1 K (q := 19) d11_18 rfl rfl rfl ?_
  refine g_iconst X1 K (q := 20) (v := (0 : Int32)) d11_19 (by decide) rfl ?_
  refine g_aloadN X1 K (q := 21) d11_20 rfl rfl rfl ?_
  refine g_iconst X1 K (q := 22) (v := (0 : Int32)) d11_21 (by decide) rfl ?_
  refine g_aloadN X1 K (q := 23) d11_22 rfl rfl rfl ?_
  have f1 := (hA.ext E1)
  refine g_lenF X1 K (q := 24) e1 f1 d11_23 rfl ?_
  refine g_iloadN X1 K (q := 25) d11_24 rfl rfl ?_
  refine g_static X1 K (q := 28) (W := 4) (w64 H) (w65 H) (w58 H) (w66 H) (by decide) (rm12_3 l H zo zn h1 Ol1 hgt) e1 rfl (argsL := [(.int zo), (.int zn)]) (rest := [(.int (0 : Int32)), (.ref b1), (.int (0 : Int32)), (.ref a)]) (lenOf pd_0 rfl) rfl rfl (Nat.le_of_eq rfl) d11_25 (by decide) (by decide) (by decide) (by decide) rfl ?_
  rintro T2 v2 L2 X2 ⟨rfl, N2q, e2⟩
  have N2 := Fr.app N0 N2q
  show Go p e below _ T2 (mkF m 28 #[.val (.ref a), .val (.int zn), .val (.ref b1)] [(.int zo), (.int (0 : Int32)), (.ref b1), (.int (0 : Int32)), (.ref a)])
  refine g_copyF X2 K (q := 31) (W := 0) (w67 H) (w70 H) (w68 H) (w69 H) e2 f1 A1 hz' (Nat.le_refl _) (by simp only [Int32.toNatClampNeg]; omega) N2 ge1 rfl d11_28 (by decide) (Nat.le_of_eq rfl) (by decide) rfl ?_
  intro T3 h3 L3 X3 e3 N3 Kc3 A3
  have Ol3 := Ol1.keep Kc3 (allS ge1 all0)
  have Kp3 := Kp1.trans Kc3 (allS (P := fun x => x ∈ _ ∨ _ ≤ x) (Or.inr sz1) all0)
  refine g_aloadN X3 K (q := 32) d11_31 rfl rfl rfl ?_
  refine g_aret X3 K rfl rfl rfl d11_32 (by decide) (by decide) ?_
  refine ⟨b1, kA1, rfl, N3, by rw [e3]; exact Kp3, sz1, ?_⟩
  rw [e3]; exact A3
set_option maxRecDepth 65536 in
set_option maxHeartbeats 40000000 in
theorem rm10_5 (l : Launch) {Z : State} {a0 : Array Value} (H : Hyp Z a0) (p1 : Int32) (p2 : Int32) (h0 : Heap) (Ol : Old Z Z.heap.size h0) :
    Mt l Z (⟨"java/lang/Math", "max", "(II)I"⟩ : MethodName) jdk_29_method_65_code 2 (some .int) [] ({ frames := 0, cells := 0, slots := 0, locals := 0 } : Room) #[(.int p1), (.int p2)] h0 (fun v h L => (p1 < p2 ∧ v = some (.int p2) ∧ Fr Z.heap.size L ∧ h = h0) ∨ (¬ (p1 < p2) ∧ v = some (.int p1) ∧ Fr Z.heap.size L ∧ h = h0)) := by
  refine g_body (Jvm.Free.JP.mathPlain rfl (by decide +kernel)) ?_
  intro p e s m below meth c T0 K X0 e0
  refine g_entry (ef_3 m p1 p2) ?_
  have N0 : Fr Z.heap.size [] := Fr.nil _
  have Ol0 := Ol
  have Kp0 : Keep h0 h0 [] := Keep.refl h0 _
  refine g_iloadN X0 K (q := 1) d10_0 rfl rfl ?_
  refine g_iloadN X0 K (q := 2) d10_1 rfl rfl ?_
  by_cases hc1 : p1 < p2
  · refine g_icY X0 K (q := 9) d10_2 (tlt hc1).1 (by decide) (by decide) ?_
    refine g_iloadN X0 K (q := 10) d10_9 rfl rfl ?_
    refine g_iret X0 K d10_10 (by decide) (by decide) ?_
    exact Or.inl (⟨hc1, rfl, N0, e0⟩)
  · refine g_icN X0 K (q := 5) d10_2 (flt hc1).1 rfl ?_
    refine g_iloadN X0 K (q := 6) d10_5 rfl rfl ?_
    refine g_goto X0 K (q := 10) d10_6 (by decide) (by decide) ?_
    refine g_iret X0 K d10_10 (by decide) (by decide) ?_
    exact Or.inr (⟨hc1, rfl, N0, e0⟩)
set_option maxRecDepth 65536 in
set_option maxHeartbeats 40000000 in
theorem rmA (l : Launch) {Z : State} {a0 : Array Value} (H : Hyp Z a0) (b : Addr) (cnt sv fv : Int32) (FB : Int) (sk : Stk) (FB' : Int) (h0 : Heap) (Ol : Old Z Z.heap.size h0) (hB : BI Z h0 b cnt FB sk) (hs0 : 0 ≤ sv.toInt) (hs1 : sv.toInt < cnt.toInt) (hf0 : 0 ≤ fv.toInt) (hlen : sk.length ≤ 9) (hF1 : FB ≤ FB') (hF2 : FB' ≤ 128) (hF3 : ∀ x : Int, (x = 64 ∨ 128 ≤ x) → x ≤ FB → x ≤ fv.toInt → 2 * x ≤ FB' ∧ fv.toInt + 1 ≤ FB') :
    Mt l Z (⟨"com/example/stets/stets/automaton/BranchSets", "add", "(II)Z"⟩ : MethodName) prog_6_method_2_code 3 (some .boolean) [] ({ frames := 2, cells := 1, slots := 128, locals := 33 } : Room) #[(.ref b), (.int sv), (.int fv)] h0 (fun v h L => v = some (.int (if (sv, fv) ∈ sk then 0 else 1)) ∧ Fr Z.heap.size L ∧ BI Z h b cnt FB' (if (sv, fv) ∈ sk then sk else (sv, fv) :: sk) ∧ Old Z Z.heap.size h) := by
  refine g_body (plainFor_of_name pn_com_example_stets_stets_automaton_BranchSets) ?_
  intro p e s m below meth c T0 K X0 e0
  refine g_entry (ef_0 m b sv fv) ?_
  have N0 : Fr Z.heap.size [] := Fr.nil _
  have Ol0 := Ol
  have hB' := hB
  obtain ⟨fa, ta, ma, sa, kf, kt, km, ki, ks, fn, fl, tr, sz, mf, HB0, PI0, hfn, hFB, hk1, hk8⟩ := hB'
  have hs8 : sv.toInt < 8 := by omega
  have nfv : ¬ (fv < (0 : Int32)) := by rw [Int32.lt_iff_toInt_lt]; have : (0 : Int32).toInt = 0 := rfl; omega
  have hsB := inb hs0 hs1
  have hsN := nat_lt hsB
  have hsz := PI0.2.2.1 sv hs0 hs1
  have hcl := Nat.le_trans (cnt_le sk sv) hlen
  have hszI : (sz sv.toNatClampNeg).toInt = cntS sk sv := by rw [hsz, ofNat_toInt (by omega)]
  have hszN : (sz sv.toNatClampNeg).toNatClampNeg = cntS sk sv := by rw [hsz, ofNat_clamp (by omega)]
  have h16 : ¬ ((sz sv.toNatClampNeg) = (16 : Int32)) := fun q => by have := hszI; rw [q] at this; have z : (16 : Int32).toInt = 16 := rfl; omega
  have hlI := ofNat_toInt (n := sk.length) (by omega)
  have h64 : ¬ ((Int32.ofNat sk.length) = (64 : Int32)) := fun q => by rw [q] at hlI; have z : (64 : Int32).toInt = 64 := rfl; omega
  by_cases hm : (sv, fv) ∈ sk
  · refine g_aloadN X0 K (q := 1) d3_0 rfl rfl rfl ?_
    refine g_iloadN X0 K (q := 2) d3_1 rfl rfl ?_
    refine g_iloadN X0 K (q := 3) d3_2 rfl rfl ?_
    refine g_virtual X0 K (q := 6) (W := 0) (a := b) (w26 H) (w27 H) (nf_self K (w29 H)) (w29 H) (w28 H) (w2 H) (w30 H) (by decide) (rmC l H b cnt sv fv FB sk h0 Ol0 hB hs0 hs1 hf0) e0 HB0.exa rfl (argsL := [(.int sv), (.int fv)]) (rest := []) (lenOf pd_1 rfl) rfl rfl (Nat.le_of_eq rfl) d3_3 (by decide) (by decide) (by decide) (by decide) rfl ?_
    rintro T1 v1 L1 X1 ⟨rfl, N1q, e1⟩
    have N1 := Fr.app N0 N1q
    rw [show (if (sv, fv) ∈ sk then (1 : Int32) else 0) = 1 from if_pos hm]
    show Go p e below _ T1 (mkF m 6 #[.val (.ref b), .val (.int sv), .val (.int fv)] [(.int (1 : Int32))])
    refine g_ifN X1 K (q := 9) d3_6 (by decide) rfl ?_
    refine g_iconst X1 K (q := 10) (v := (0 : Int32)) d3_9 (by decide) rfl ?_
    refine g_nret X1 K (by simp) (z' := (0 : Int32)) (by decide) d3_10 (by decide) (by decide) ?_
    refine ⟨by rw [if_pos hm], N1, ?_, by rw [e1]; exact Ol0⟩
    rw [if_pos hm, e1]
    exact ⟨fa, ta, ma, sa, kf, kt, km, ki, ks, fn, fl, tr, sz, mf, HB0, PI0, hfn, Int.le_trans hFB hF1, hk1, hk8⟩
  · refine g_aloadN X0 K (q := 1) d3_0 rfl rfl rfl ?_
    refine g_iloadN X0 K (q := 2) d3_1 rfl rfl ?_
    refine g_iloadN X0 K (q := 3) d3_2 rfl rfl ?_
    refine g_virtual X0 K (q := 6) (W := 0) (a := b) (w26 H) (w27 H) (nf_self K (w29 H)) (w29 H) (w28 H) (w2 H) (w30 H) (by decide) (rmC l H b cnt sv fv FB sk h0 Ol0 hB hs0 hs1 hf0) e0 HB0.exa rfl (argsL := [(.int sv), (.int fv)]) (rest := []) (lenOf pd_1 rfl) rfl rfl (Nat.le_of_eq rfl) d3_3 (by decide) (by decide) (by decide) (by decide) rfl ?_
    rintro T2 v2 L2 X2 ⟨rfl, N2q, e2⟩
    have N2 := Fr.app N0 N2q
    rw [show (if (sv, fv) ∈ sk then (1 : Int32) else 0) = 0 from if_neg hm]
    show Go p e below _ T2 (mkF m 6 #[.val (.ref b), .val (.int sv), .val (.int fv)] [(.int (0 : Int32))])
    refine g_ifY X2 K (q := 11) d3_6 (by decide) (by decide) (by decide) ?_
    refine g_iloadN X2 K (q := 12) d3_11 rfl rfl ?_
    refine g_aloadN X2 K (q := 13) d3_12 rfl rfl rfl ?_
    refine g_getf X2 K (q := 16) (w10 H) Via.refl e2 HB0.fF d3_13 rfl ?_
    intro T3 X3 e3
    refine g_lenF X3 K (q := 17) e3 HB0.aF d3_16 rfl ?_
    by_cases hc1 : fv < fn
    · refine g_icY X3 K (q := 44) d3_17 (tlt hc1).1 (by decide) (by decide) ?_
      refine g_aloadN X3 K (q := 45) d3_44 rfl rfl rfl ?_
      refine g_getf X3 K (q := 48) (w10 H) Via.refl e3 HB0.fF d3_45 rfl ?_
      intro T4 X4 e4
      refine g_iloadN X4 K (q := 49) d3_48 rfl rfl ?_
      refine g_dup2 X4 K (q := 50) d3_49 rfl rfl rfl ?_
      refine g_balF X4 K (q := 51) (z := (fl fv.toNatClampNeg)) e4 HB0.aF ⟨nfv, hc1⟩ rfl d3_50 rfl ?_
      refine g_iconst X4 K (q := 52) (v := (1 : Int32)) d3_51 (by decide) rfl ?_
      refine g_iloadN X4 K (q := 53) d3_52 rfl rfl ?_
      refine g_ishl X4 K (q := 54) d3_53 rfl rfl ?_
      refine g_i2b X4 K (q := 55) d3_54 rfl rfl ?_
      refine g_ior X4 K (q := 56) d3_55 rfl rfl ?_
      refine g_i2b X4 K (q := 57) d3_56 rfl rfl ?_
      refine g_basF X4 K (q := 58) (z := (addB (fl fv.toNatClampNeg) sv)) e4 HB0.aF ⟨nfv, hc1⟩ rfl d3_57 rfl ?_
      intro T5 h5 X5 e5 W5
      have N5 := Fr.snoc X5 N2 HB0.gf
      have Ol5 := Ol0.wr W5 HB0.gf
      have HB1 := HB0.wF ⟨nfv, hc1⟩ (fits_nar_byte _) W5
      refine g_aloadN X5 K (q := 59) d3_58 rfl rfl rfl ?_
      refine g_getf X5 K (q := 62) (w19 H) Via.refl e5 HB1.fS d3_59 rfl ?_
      intro T6 X6 e6
      refine g_iloadN X6 K (q := 63) d3_62 rfl rfl ?_
      refine g_ialF X6 K (q := 64) (z := (sz sv.toNatClampNeg)) e6 HB1.aS hsB rfl d3_63 rfl ?_
      refine g_aloadN X6 K (q := 65) d3_64 rfl rfl rfl ?_
      refine g_getf X6 K (q := 68) (w17 H) Via.refl e6 HB1.fM d3_65 rfl ?_
      intro T7 X7 e7
      refine g_iloadN X7 K (q := 69) d3_68 rfl rfl ?_
      refine g_aald X7 K (q := 70) (v := (.ref (ma + 1 + sv.toNatClampNeg))) e7 HB1.aM rfl hsB (outer_at hsN) d3_69 rfl ?_
      refine g_lenF X7 K (q := 71) e7 (HB1.aI hsN) d3_70 rfl ?_
      refine g_icY X7 K (q := 97) d3_71 (feq h16).2 (by decide) (by decide) ?_
      refine g_aloadN X7 K (q := 98) d3_97 rfl rfl rfl ?_
      refine g_getf X7 K (q := 101) (w17 H) Via.refl e7 HB1.fM d3_98 rfl ?_
      intro T8 X8 e8
      refine g_iloadN X8 K (q := 102) d3_101 rfl rfl ?_
      refine g_aald X8 K (q := 103) (v := (.ref (ma + 1 + sv.toNatClampNeg))) e8 HB1.aM rfl hsB (outer_at hsN) d3_102 rfl ?_
      refine g_aloadN X8 K (q := 104) d3_103 rfl rfl rfl ?_
      refine g_getf X8 K (q := 107) (w19 H) Via.refl e8 HB1.fS d3_104 rfl ?_
      intro T9 X9 e9
      refine g_iloadN X9 K (q := 108) d3_107 rfl rfl ?_
      refine g_dup2 X9 K (q := 109) d3_108 rfl rfl rfl ?_
      refine g_ialF X9 K (q := 110) (z := (sz sv.toNatClampNeg)) e9 HB1.aS hsB rfl d3_109 rfl ?_
      refine g_dupX2 X9 K (q := 111) d3_110 rfl rfl rfl rfl ?_
      refine g_iconst X9 K (q := 112) (v := (1 : Int32)) d3_111 (by decide) rfl ?_
      refine g_iadd X9 K (q := 113) d3_112 rfl rfl ?_
      refine g_iasF X9 K (q := 114) e9 HB1.aS hsB d3_113 rfl ?_
      intro T10 h10 X10 e10 W10
      have N10 := Fr.snoc X10 N5 HB1.gs
      have Ol10 := Ol5.wr W10 HB1.gs
      have HB2 := HB1.wS hsB W10
      refine g_iloadN X10 K (q := 115) d3_114 rfl rfl ?_
      refine g_iasF X10 K (q := 116) e10 (HB2.aI hsN) (inb (n := (16 : Int32)) (by omega) (by have z : (16 : Int32).toInt = 16 := rfl; omega)) d3_115 rfl ?_
      intro T11 h11 X11 e11 W11
      have N11 := Fr.snoc X11 N10 HB2.gi
      have Ol11 := Ol10.wr W11 HB2.gi
      have HB3 := HB2.wM hsN (inb (n := (16 : Int32)) (by omega) (by have z : (16 : Int32).toInt = 16 := rfl; omega)) W11
      refine g_aloadN X11 K (q := 117) d3_116 rfl rfl rfl ?_
      refine g_getf X11 K (q := 120) (w31 H) Via.refl e11 HB3.fN d3_117 rfl ?_
      intro T12 X12 e12
      refine g_aloadN X12 K (q := 121) d3_120 rfl rfl rfl ?_
      refine g_getf X12 K (q := 124) (w12 H) Via.refl e12 HB3.fT d3_121 rfl ?_
      intro T13 X13 e13
      refine g_lenF X13 K (q := 125) e13 HB3.aT d3_124 rfl ?_
      refine g_icY X13 K (q := 145) d3_125 (feq h64).2 (by decide) (by decide) ?_
      refine g_aloadN X13 K (q := 146) d3_145 rfl rfl rfl ?_
      refine g_getf X13 K (q := 149) (w12 H) Via.refl e13 HB3.fT d3_146 rfl ?_
      intro T14 X14 e14
      refine g_aloadN X14 K (q := 150) d3_149 rfl rfl rfl ?_
      refine g_dup X14 K (q := 151) d3_150 rfl rfl ?_
      refine g_getf X14 K (q := 154) (w31 H) Via.refl e14 HB3.fN d3_151 rfl ?_
      intro T15 X15 e15
      refine g_dupX1 X15 K (q := 155) d3_154 rfl rfl rfl ?_
      refine g_iconst X15 K (q := 156) (v := (1 : Int32)) d3_155 (by decide) rfl ?_
      refine g_iadd X15 K (q := 157) (z := (Int32.ofNat (sk.length + 1))) d3_156 (Int32.ofNat_add sk.length 1).symm rfl ?_
      refine g_putf X15 K (q := 160) (w31 H) Via.refl e15 HB3.fN HB3.exa (Or.inl (w32 H)) (w1 H) (ty := .int) (by decide) rfl rfl d3_157 rfl ?_
      intro T16 h16 X16 e16 W16 F16
      have N16 := Fr.snoc X16 N11 HB3.gb
      have Ol16 := Ol11.wr W16 HB3.gb
      have HB4 := HB.wTs (lb H) HB3 W16
      refine g_iloadN X16 K (q := 161) d3_160 rfl rfl ?_
      refine g_i2b X16 K (q := 162) d3_161 rfl rfl ?_
      refine g_basF X16 K (q := 163) (z := sv) e16 HB4.aT (inb (n := (64 : Int32)) (by omega) (by have z : (64 : Int32).toInt = 64 := rfl; omega)) (nar_small hs0 hs8) d3_162 rfl ?_
      intro T17 h17 X17 e17 W17
      have N17 := Fr.snoc X17 N16 HB4.gt
      have Ol17 := Ol16.wr W17 HB4.gt
      have HB5 := HB4.wT (inb (n := (64 : Int32)) (by omega) (by have z : (64 : Int32).toInt = 64 := rfl; omega)) (by have q := fits_nar_byte sv.toInt8.toInt32; have e : sv.toInt8.toInt32.toInt8.toInt32 = sv := nar_small hs0 hs8; rw [e] at q; exact q) W17
      refine g_iconst X17 K (q := 164) (v := (1 : Int32)) d3_163 (by decide) rfl ?_
      refine g_nret X17 K (by simp) (z' := (1 : Int32)) (by decide) d3_164 (by decide) (by decide) ?_
      refine ⟨by rw [if_neg hm], N17, ?_, by rw [e17]; exact Ol17⟩
      rw [if_neg hm, e17]
      exact ⟨_, _, _, _, _, _, _, _, _, _, _, _, _, _, HB5, PI0.push hk8 hs0 hs1 hf0 (Int32.lt_iff_toInt_lt.mp hc1) hm (ofNat_clamp (by omega)) hszN (by omega) rfl, hfn, Int.le_trans hFB hF1, hk1, hk8⟩
    · refine g_icN X3 K (q := 20) d3_17 (flt hc1).1 rfl ?_
      refine g_aloadN X3 K (q := 21) d3_20 rfl rfl rfl ?_
      refine g_aloadN X3 K (q := 22) d3_21 rfl rfl rfl ?_
      refine g_getf X3 K (q := 25) (w10 H) Via.refl e3 HB0.fF d3_22 rfl ?_
      intro T18 X18 e18
      refine g_iconst X18 K (q := 26) (v := (2 : Int32)) d3_25 (by decide) rfl ?_
      refine g_aloadN X18 K (q := 27) d3_26 rfl rfl rfl ?_
      refine g_getf X18 K (q := 30) (w10 H) Via.refl e18 HB0.fF d3_27 rfl ?_
      intro T19 X19 e19
      refine g_lenF X19 K (q := 31) e19 HB0.aF d3_30 rfl ?_
      obtain ⟨n2, hn2⟩ : ∃ z, (2 : Int32) * fn = z := ⟨_, rfl⟩
      have hn2I : n2.toInt = 2 * fn.toInt := by
        have q := c_imul (2 : Int32) fn
        have z : (2 : Int32).toInt = 2 := rfl
        rw [hn2, z] at q
        have b1 := Int32.le_toInt n2
        have b2 := Int32.toInt_lt n2
        omega
      refine g_imul X19 K (q := 32) (z := n2) d3_31 hn2 rfl ?_
      refine g_iloadN X19 K (q := 33) d3_32 rfl rfl ?_
      refine g_iconst X19 K (q := 34) (v := (1 : Int32)) d3_33 (by decide) rfl ?_
      obtain ⟨f1, hf1⟩ : ∃ z, fv + (1 : Int32) = z := ⟨_, rfl⟩
      have hbig : fn.toInt ≤ fv.toInt := Int.not_lt.mp fun q => hc1 (Int32.lt_iff_toInt_lt.mpr q)
      obtain ⟨hG1, hG2⟩ := hF3 _ hfn hFB hbig
      have hf1I : f1.toInt = fv.toInt + 1 := by
        have q := c_iadd fv (1 : Int32)
        have z : (1 : Int32).toInt = 1 := rfl
        rw [hf1, z] at q
        have b1 := Int32.le_toInt f1
        have b2 := Int32.toInt_lt f1
        omega
      refine g_iadd X19 K (q := 35) (z := f1) d3_34 hf1 rfl ?_
      refine g_static X19 K (q := 38) (W := 2) (w56 H) (w57 H) (w58 H) (w59 H) (by decide) (rm10_5 l H n2 f1 h0 Ol0) e19 rfl (argsL := [(.int n2), (.int f1)]) (rest := [(.ref fa), (.ref b)]) (lenOf pd_0 rfl) rfl rfl (Nat.le_of_eq rfl) d3_35 (by decide) (by decide) (by decide) (by decide) rfl ?_
      rintro T20 v20 L20 X20 (⟨hc2, rfl, N20q, e20⟩ | ⟨hc3, rfl, N20q, e20⟩)
      · have N20 := Fr.app N2 N20q
        show Go p e below _ T20 (mkF m 38 #[.val (.ref b), .val (.int sv), .val (.int fv)] [(.int f1), (.ref fa), (.ref b)])
        have hmx : n2.toInt < f1.toInt := Int32.lt_iff_toInt_lt.mp hc2
        have hnlo : fn.toInt < f1.toInt := by omega
        have hnhi : f1.toInt ≤ FB' := by omega
        refine g_static X20 K (q := 41) (W := 1) (w60 H) (w61 H) (w62 H) (w63 H) (by decide) (rmK l H fa kf fn f1 fl h0 Ol0 HB0.aF (by omega) hnlo (by omega)) e20 rfl (argsL := [(.ref fa), (.int f1)]) (rest := [(.ref b)]) (lenOf pd_2 rfl) rfl rfl (Nat.le_of_eq rfl) d3_38 (by decide) (by decide) (by decide) (by decide) rfl ?_
        rintro T21 v21 L21 X21 ⟨bn, kn, rfl, N21q, Kc21, hz21, A21⟩
        have N21 := Fr.app N20 N21q
        have ge21 : Z.heap.size ≤ bn := Nat.le_trans Ol0.2.1 hz21
        have Ol21 := Ol0.keep Kc21 all0
        have HBk := HB0.keep Kc21
        have hfN : fv.toInt < f1.toInt := by omega
        have PIg := PI0.grow (g := (fun i => if i < fn.toNatClampNeg then fl i else 0)) (fn' := f1) (by omega) (by omega) (fun _ => rfl)
        show Go p e below _ T21 (mkF m 41 #[.val (.ref b), .val (.int sv), .val (.int fv)] [(.ref bn), (.ref b)])
        refine g_putf X21 K (q := 44) (w10 H) Via.refl rfl HBk.fF HBk.exa (Or.inl (w11 H)) (w1 H) (ty := (.array .byte)) (by decide) rfl rfl d3_41 rfl ?_
        have hbB := Nat.lt_of_lt_of_le HB0.exa.lt hz21
        have hbT := Nat.lt_of_lt_of_le HB0.aT.lt hz21
        have hbM := Nat.lt_of_lt_of_le HB0.aM.lt hz21
        have hbS := Nat.lt_of_lt_of_le HB0.aS.lt hz21
        have hbI : ∀ i, i < cnt.toNatClampNeg → ma + 1 + i < bn := fun i hi => Nat.lt_of_lt_of_le (HB0.aI hi).lt hz21
        intro T22 h22 X22 e22 W22 F22
        have N22 := Fr.snoc X22 N21 HBk.gb
        have Ol22 := Ol21.wr W22 HBk.gb
        have HB6 := HB.wFp (lb H) HBk A21 ge21 hbB hbT hbM hbI hbS W22
        refine g_aloadN X22 K (q := 45) d3_44 rfl rfl rfl ?_
        refine g_getf X22 K (q := 48) (w10 H) Via.refl e22 HB6.fF d3_45 rfl ?_
        intro T23 X23 e23
        refine g_iloadN X23 K (q := 49) d3_48 rfl rfl ?_
        refine g_dup2 X23 K (q := 50) d3_49 rfl rfl rfl ?_
        refine g_balF X23 K (q := 51) (z := ((fun i => if i < fn.toNatClampNeg then fl i else 0) fv.toNatClampNeg)) e23 HB6.aF (inb hf0 hfN) rfl d3_50 rfl ?_
        refine g_iconst X23 K (q := 52) (v := (1 : Int32)) d3_51 (by decide) rfl ?_
        refine g_iloadN X23 K (q := 53) d3_52 rfl rfl ?_
        refine g_ishl X23 K (q := 54) d3_53 rfl rfl ?_
        refine g_i2b X23 K (q := 55) d3_54 rfl rfl ?_
        refine g_ior X23 K (q := 56) d3_55 rfl rfl ?_
        refine g_i2b X23 K (q := 57) d3_56 rfl rfl ?_
        refine g_basF X23 K (q := 58) (z := (addB ((fun i => if i < fn.toNatClampNeg then fl i else 0) fv.toNatClampNeg) sv)) e23 HB6.aF (inb hf0 hfN) rfl d3_57 rfl ?_
        intro T24 h24 X24 e24 W24
        have N24 := Fr.snoc X24 N22 HB6.gf
        have Ol24 := Ol22.wr W24 HB6.gf
        have HB7 := HB6.wF (inb hf0 hfN) (fits_nar_byte _) W24
        refine g_aloadN X24 K (q := 59) d3_58 rfl rfl rfl ?_
        refine g_getf X24 K (q := 62) (w19 H) Via.refl e24 HB7.fS d3_59 rfl ?_
        intro T25 X25 e25
        refine g_iloadN X25 K (q := 63) d3_62 rfl rfl ?_
        refine g_ialF X25 K (q := 64) (z := (sz sv.toNatClampNeg)) e25 HB7.aS hsB rfl d3_63 rfl ?_
        refine g_aloadN X25 K (q := 65) d3_64 rfl rfl rfl ?_
        refine g_getf X25 K (q := 68) (w17 H) Via.refl e25 HB7.fM d3_65 rfl ?_
        intro T26 X26 e26
        refine g_iloadN X26 K (q := 69) d3_68 rfl rfl ?_
        refine g_aald X26 K (q := 70) (v := (.ref (ma + 1 + sv.toNatClampNeg))) e26 HB7.aM rfl hsB (outer_at hsN) d3_69 rfl ?_
        refine g_lenF X26 K (q := 71) e26 (HB7.aI hsN) d3_70 rfl ?_
        refine g_icY X26 K (q := 97) d3_71 (feq h16).2 (by decide) (by decide) ?_
        refine g_aloadN X26 K (q := 98) d3_97 rfl rfl rfl ?_
        refine g_getf X26 K (q := 101) (w17 H) Via.refl e26 HB7.fM d3_98 rfl ?_
        intro T27 X27 e27
        refine g_iloadN X27 K (q := 102) d3_101 rfl rfl ?_
        refine g_aald X27 K (q := 103) (v := (.ref (ma + 1 + sv.toNatClampNeg))) e27 HB7.aM rfl hsB (outer_at hsN) d3_102 rfl ?_
        refine g_aloadN X27 K (q := 104) d3_103 rfl rfl rfl ?_
        refine g_getf X27 K (q := 107) (w19 H) Via.refl e27 HB7.fS d3_104 rfl ?_
        intro T28 X28 e28
        refine g_iloadN X28 K (q := 108) d3_107 rfl rfl ?_
        refine g_dup2 X28 K (q := 109) d3_108 rfl rfl rfl ?_
        refine g_ialF X28 K (q := 110) (z := (sz sv.toNatClampNeg)) e28 HB7.aS hsB rfl d3_109 rfl ?_
        refine g_dupX2 X28 K (q := 111) d3_110 rfl rfl rfl rfl ?_
        refine g_iconst X28 K (q := 112) (v := (1 : Int32)) d3_111 (by decide) rfl ?_
        refine g_iadd X28 K (q := 113) d3_112 rfl rfl ?_
        refine g_iasF X28 K (q := 114) e28 HB7.aS hsB d3_113 rfl ?_
        intro T29 h29 X29 e29 W29
        have N29 := Fr.snoc X29 N24 HB7.gs
        have Ol29 := Ol24.wr W29 HB7.gs
        have HB8 := HB7.wS hsB W29
        refine g_iloadN X29 K (q := 115) d3_114 rfl rfl ?_
        refine g_iasF X29 K (q := 116) e29 (HB8.aI hsN) (inb (n := (16 : Int32)) (by omega) (by have z : (16 : Int32).toInt = 16 := rfl; omega)) d3_115 rfl ?_
        intro T30 h30 X30 e30 W30
        have N30 := Fr.snoc X30 N29 HB8.gi
        have Ol30 := Ol29.wr W30 HB8.gi
        have HB9 := HB8.wM hsN (inb (n := (16 : Int32)) (by omega) (by have z : (16 : Int32).toInt = 16 := rfl; omega)) W30
        refine g_aloadN X30 K (q := 117) d3_116 rfl rfl rfl ?_
        refine g_getf X30 K (q := 120) (w31 H) Via.refl e30 HB9.fN d3_117 rfl ?_
        intro T31 X31 e31
        refine g_aloadN X31 K (q := 121) d3_120 rfl rfl rfl ?_
        refine g_getf X31 K (q := 124) (w12 H) Via.refl e31 HB9.fT d3_121 rfl ?_
        intro T32 X32 e32
        refine g_lenF X32 K (q := 125) e32 HB9.aT d3_124 rfl ?_
        refine g_icY X32 K (q := 145) d3_125 (feq h64).2 (by decide) (by decide) ?_
        refine g_aloadN X32 K (q := 146) d3_145 rfl rfl rfl ?_
        refine g_getf X32 K (q := 149) (w12 H) Via.refl e32 HB9.fT d3_146 rfl ?_
        intro T33 X33 e33
        refine g_aloadN X33 K (q := 150) d3_149 rfl rfl rfl ?_
        refine g_dup X33 K (q := 151) d3_150 rfl rfl ?_
        refine g_getf X33 K (q := 154) (w31 H) Via.refl e33 HB9.fN d3_151 rfl ?_
        intro T34 X34 e34
        refine g_dupX1 X34 K (q := 155) d3_154 rfl rfl rfl ?_
        refine g_iconst X34 K (q := 156) (v := (1 : Int32)) d3_155 (by decide) rfl ?_
        refine g_iadd X34 K (q := 157) (z := (Int32.ofNat (sk.length + 1))) d3_156 (Int32.ofNat_add sk.length 1).symm rfl ?_
        refine g_putf X34 K (q := 160) (w31 H) Via.refl e34 HB9.fN HB9.exa (Or.inl (w32 H)) (w1 H) (ty := .int) (by decide) rfl rfl d3_157 rfl ?_
        intro T35 h35 X35 e35 W35 F35
        have N35 := Fr.snoc X35 N30 HB9.gb
        have Ol35 := Ol30.wr W35 HB9.gb
        have HB10 := HB.wTs (lb H) HB9 W35
        refine g_iloadN X35 K (q := 161) d3_160 rfl rfl ?_
        refine g_i2b X35 K (q := 162) d3_161 rfl rfl ?_
        refine g_basF X35 K (q := 163) (z := sv) e35 HB10.aT (inb (n := (64 : Int32)) (by omega) (by have z : (64 : Int32).toInt = 64 := rfl; omega)) (nar_small hs0 hs8) d3_162 rfl ?_
        intro T36 h36 X36 e36 W36
        have N36 := Fr.snoc X36 N35 HB10.gt
        have Ol36 := Ol35.wr W36 HB10.gt
        have HB11 := HB10.wT (inb (n := (64 : Int32)) (by omega) (by have z : (64 : Int32).toInt = 64 := rfl; omega)) (by have q := fits_nar_byte sv.toInt8.toInt32; have e : sv.toInt8.toInt32.toInt8.toInt32 = sv := nar_small hs0 hs8; rw [e] at q; exact q) W36
        refine g_iconst X36 K (q := 164) (v := (1 : Int32)) d3_163 (by decide) rfl ?_
        refine g_nret X36 K (by simp) (z' := (1 : Int32)) (by decide) d3_164 (by decide) (by decide) ?_
        refine ⟨by rw [if_neg hm], N36, ?_, by rw [e36]; exact Ol36⟩
        rw [if_neg hm, e36]
        exact ⟨_, _, _, _, _, _, _, _, _, _, _, _, _, _, HB11, PIg.push hk8 hs0 hs1 hf0 hfN hm (ofNat_clamp (by omega)) hszN (by omega) rfl, Or.inr (by omega), hnhi, hk1, hk8⟩
      · have N20 := Fr.app N2 N20q
        show Go p e below _ T20 (mkF m 38 #[.val (.ref b), .val (.int sv), .val (.int fv)] [(.int n2), (.ref fa), (.ref b)])
        have hmx : ¬ (n2.toInt < f1.toInt) := fun q => hc3 (Int32.lt_iff_toInt_lt.mpr q)
        have hnlo : fn.toInt < n2.toInt := by omega
        have hnhi : n2.toInt ≤ FB' := by omega
        refine g_static X20 K (q := 41) (W := 1) (w60 H) (w61 H) (w62 H) (w63 H) (by decide) (rmK l H fa kf fn n2 fl h0 Ol0 HB0.aF (by omega) hnlo (by omega)) e20 rfl (argsL := [(.ref fa), (.int n2)]) (rest := [(.ref b)]) (lenOf pd_2 rfl) rfl rfl (Nat.le_of_eq rfl) d3_38 (by decide) (by decide) (by decide) (by decide) rfl ?_
        rintro T37 v37 L37 X37 ⟨bn, kn, rfl, N37q, Kc37, hz37, A37⟩
        have N37 := Fr.app N20 N37q
        have ge37 : Z.heap.size ≤ bn := Nat.le_trans Ol0.2.1 hz37
        have Ol37 := Ol0.keep Kc37 all0
        have HBk := HB0.keep Kc37
        have hfN : fv.toInt < n2.toInt := by omega
        have PIg := PI0.grow (g := (fun i => if i < fn.toNatClampNeg then fl i else 0)) (fn' := n2) (by omega) (by omega) (fun _ => rfl)
        show Go p e below _ T37 (mkF m 41 #[.val (.ref b), .val (.int sv), .val (.int fv)] [(.ref bn), (.ref b)])
        refine g_putf X37 K (q := 44) (w10 H) Via.refl rfl HBk.fF HBk.exa (Or.inl (w11 H)) (w1 H) (ty := (.array .byte)) (by decide) rfl rfl d3_41 rfl ?_
        have hbB := Nat.lt_of_lt_of_le HB0.exa.lt hz37
        have hbT := Nat.lt_of_lt_of_le HB0.aT.lt hz37
        have hbM := Nat.lt_of_lt_of_le HB0.aM.lt hz37
        have hbS := Nat.lt_of_lt_of_le HB0.aS.lt hz37
        have hbI : ∀ i, i < cnt.toNatClampNeg → ma + 1 + i < bn := fun i hi => Nat.lt_of_lt_of_le (HB0.aI hi).lt hz37
        intro T38 h38 X38 e38 W38 F38
        have N38 := Fr.snoc X38 N37 HBk.gb
        have Ol38 := Ol37.wr W38 HBk.gb
        have HB12 := HB.wFp (lb H) HBk A37 ge37 hbB hbT hbM hbI hbS W38
        refine g_aloadN X38 K (q := 45) d3_44 rfl rfl rfl ?_
        refine g_getf X38 K (q := 48) (w10 H) Via.refl e38 HB12.fF d3_45 rfl ?_
        intro T39 X39 e39
        refine g_iloadN X39 K (q := 49) d3_48 rfl rfl ?_
        refine g_dup2 X39 K (q := 50) d3_49 rfl rfl rfl ?_
        refine g_balF X39 K (q := 51) (z := ((fun i => if i < fn.toNatClampNeg then fl i else 0) fv.toNatClampNeg)) e39 HB12.aF (inb hf0 hfN) rfl d3_50 rfl ?_
        refine g_iconst X39 K (q := 52) (v := (1 : Int32)) d3_51 (by decide) rfl ?_
        refine g_iloadN X39 K (q := 53) d3_52 rfl rfl ?_
        refine g_ishl X39 K (q := 54) d3_53 rfl rfl ?_
        refine g_i2b X39 K (q := 55) d3_54 rfl rfl ?_
        refine g_ior X39 K (q := 56) d3_55 rfl rfl ?_
        refine g_i2b X39 K (q := 57) d3_56 rfl rfl ?_
        refine g_basF X39 K (q := 58) (z := (addB ((fun i => if i < fn.toNatClampNeg then fl i else 0) fv.toNatClampNeg) sv)) e39 HB12.aF (inb hf0 hfN) rfl d3_57 rfl ?_
        intro T40 h40 X40 e40 W40
        have N40 := Fr.snoc X40 N38 HB12.gf
        have Ol40 := Ol38.wr W40 HB12.gf
        have HB13 := HB12.wF (inb hf0 hfN) (fits_nar_byte _) W40
        refine g_aloadN X40 K (q := 59) d3_58 rfl rfl rfl ?_
        refine g_getf X40 K (q := 62) (w19 H) Via.refl e40 HB13.fS d3_59 rfl ?_
        intro T41 X41 e41
        refine g_iloadN X41 K (q := 63) d3_62 rfl rfl ?_
        refine g_ialF X41 K (q := 64) (z := (sz sv.toNatClampNeg)) e41 HB13.aS hsB rfl d3_63 rfl ?_
        refine g_aloadN X41 K (q := 65) d3_64 rfl rfl rfl ?_
        refine g_getf X41 K (q := 68) (w17 H) Via.refl e41 HB13.fM d3_65 rfl ?_
        intro T42 X42 e42
        refine g_iloadN X42 K (q := 69) d3_68 rfl rfl ?_
        refine g_aald X42 K (q := 70) (v := (.ref (ma + 1 + sv.toNatClampNeg))) e42 HB13.aM rfl hsB (outer_at hsN) d3_69 rfl ?_
        refine g_lenF X42 K (q := 71) e42 (HB13.aI hsN) d3_70 rfl ?_
        refine g_icY X42 K (q := 97) d3_71 (feq h16).2 (by decide) (by decide) ?_
        refine g_aloadN X42 K (q := 98) d3_97 rfl rfl rfl ?_
        refine g_getf X42 K (q := 101) (w17 H) Via.refl e42 HB13.fM d3_98 rfl ?_
        intro T43 X43 e43
        refine g_iloadN X43 K (q := 102) d3_101 rfl rfl ?_
        refine g_aald X43 K (q := 103) (v := (.ref (ma + 1 + sv.toNatClampNeg))) e43 HB13.aM rfl hsB (outer_at hsN) d3_102 rfl ?_
        refine g_aloadN X43 K (q := 104) d3_103 rfl rfl rfl ?_
        refine g_getf X43 K (q := 107) (w19 H) Via.refl e43 HB13.fS d3_104 rfl ?_
        intro T44 X44 e44
        refine g_iloadN X44 K (q := 108) d3_107 rfl rfl ?_
        refine g_dup2 X44 K (q := 109) d3_108 rfl rfl rfl ?_
        refine g_ialF X44 K (q := 110) (z := (sz sv.toNatClampNeg)) e44 HB13.aS hsB rfl d3_109 rfl ?_
        refine g_dupX2 X44 K (q := 111) d3_110 rfl rfl rfl rfl ?_
        refine g_iconst X44 K (q := 112) (v := (1 : Int32)) d3_111 (by decide) rfl ?_
        refine g_iadd X44 K (q := 113) d3_112 rfl rfl ?_
        refine g_iasF X44 K (q := 114) e44 HB13.aS hsB d3_113 rfl ?_
        intro T45 h45 X45 e45 W45
        have N45 := Fr.snoc X45 N40 HB13.gs
        have Ol45 := Ol40.wr W45 HB13.gs
        have HB14 := HB13.wS hsB W45
        refine g_iloadN X45 K (q := 115) d3_114 rfl rfl ?_
        refine g_iasF X45 K (q := 116) e45 (HB14.aI hsN) (inb (n := (16 : Int32)) (by omega) (by have z : (16 : Int32).toInt = 16 := rfl; omega)) d3_115 rfl ?_
        intro T46 h46 X46 e46 W46
        have N46 := Fr.snoc X46 N45 HB14.gi
        have Ol46 := Ol45.wr W46 HB14.gi
        have HB15 := HB14.wM hsN (inb (n := (16 : Int32)) (by omega) (by have z : (16 : Int32).toInt = 16 := rfl; omega)) W46
        refine g_aloadN X46 K (q := 117) d3_116 rfl rfl rfl ?_
        refine g_getf X46 K (q := 120) (w31 H) Via.refl e46 HB15.fN d3_117 rfl ?_
        intro T47 X47 e47
        refine g_aloadN X47 K (q := 121) d3_120 rfl rfl rfl ?_
        refine g_getf X47 K (q := 124) (w12 H) Via.refl e47 HB15.fT d3_121 rfl ?_
        intro T48 X48 e48
        refine g_lenF X48 K (q := 125) e48 HB15.aT d3_124 rfl ?_
        refine g_icY X48 K (q := 145) d3_125 (feq h64).2 (by decide) (by decide) ?_
        refine g_aloadN X48 K (q := 146) d3_145 rfl rfl rfl ?_
        refine g_getf X48 K (q := 149) (w12 H) Via.refl e48 HB15.fT d3_146 rfl ?_
        intro T49 X49 e49
        refine g_aloadN X49 K (q := 150) d3_149 rfl rfl rfl ?_
        refine g_dup X49 K (q := 151) d3_150 rfl rfl ?_
        refine g_getf X49 K (q := 154) (w31 H) Via.refl e49 HB15.fN d3_151 rfl ?_
        intro T50 X50 e50
        refine g_dupX1 X50 K (q := 155) d3_154 rfl rfl rfl ?_
        refine g_iconst X50 K (q := 156) (v := (1 : Int32)) d3_155 (by decide) rfl ?_
        refine g_iadd X50 K (q := 157) (z := (Int32.ofNat (sk.length + 1))) d3_156 (Int32.ofNat_add sk.length 1).symm rfl ?_
        refine g_putf X50 K (q := 160) (w31 H) Via.refl e50 HB15.fN HB15.exa (Or.inl (w32 H)) (w1 H) (ty := .int) (by decide) rfl rfl d3_157 rfl ?_
        intro T51 h51 X51 e51 W51 F51
        have N51 := Fr.snoc X51 N46 HB15.gb
        have Ol51 := Ol46.wr W51 HB15.gb
        have HB16 := HB.wTs (lb H) HB15 W51
        refine g_iloadN X51 K (q := 161) d3_160 rfl rfl ?_
        refine g_i2b X51 K (q := 162) d3_161 rfl rfl ?_
        refine g_basF X51 K (q := 163) (z := sv) e51 HB16.aT (inb (n := (64 : Int32)) (by omega) (by have z : (64 : Int32).toInt = 64 := rfl; omega)) (nar_small hs0 hs8) d3_162 rfl ?_
        intro T52 h52 X52 e52 W52
        have N52 := Fr.snoc X52 N51 HB16.gt
        have Ol52 := Ol51.wr W52 HB16.gt
        have HB17 := HB16.wT (inb (n := (64 : Int32)) (by omega) (by have z : (64 : Int32).toInt = 64 := rfl; omega)) (by have q := fits_nar_byte sv.toInt8.toInt32; have e : sv.toInt8.toInt32.toInt8.toInt32 = sv := nar_small hs0 hs8; rw [e] at q; exact q) W52
        refine g_iconst X52 K (q := 164) (v := (1 : Int32)) d3_163 (by decide) rfl ?_
        refine g_nret X52 K (by simp) (z' := (1 : Int32)) (by decide) d3_164 (by decide) (by decide) ?_
        refine ⟨by rw [if_neg hm], N52, ?_, by rw [e52]; exact Ol52⟩
        rw [if_neg hm, e52]
        exact ⟨_, _, _, _, _, _, _, _, _, _, _, _, _, _, HB17, PIg.push hk8 hs0 hs1 hf0 hfN hm (ofNat_clamp (by omega)) hszN (by omega) rfl, Or.inr (by omega), hnhi, hk1, hk8⟩
set_option maxRecDepth 65536 in
set_option maxHeartbeats 40000000 in
theorem undoL {p : Program} {l : Launch} {e : Env} {R : Room} {s : State} {m : MethodId} {args : Array Value} {below : List Frame} {meth : Method} {c : Code} {Z : State} {a0 : Array Value} {b : Addr} {cnt mk : Int32} {FB : Int} {kc kn cells slots : Nat} (H : Hyp Z a0) (K : Kt p Z s m meth c (⟨"com/example/stets/stets/automaton/BranchSets", "undoTo", "(I)V"⟩ : MethodName) prog_6_method_8_code 4 none) (hm0 : 0 ≤ mk.toInt) (hc : cells ≤ kc) (hs : slots ≤ kn) : ∀ (sk : Stk) (T0 : State) (locs : List Loc) (s2 s3 : Slot), Stand p l e R s m args below meth c T0 locs cells slots → Fr Z.heap.size locs → Old Z Z.heap.size T0.heap → BI Z T0.heap b cnt FB sk → sk.length ≤ 10 → ((s2 = .unset ∧ s3 = .unset) ∨ ∃ u w, s2 = .val (.int u) ∧ s3 = .val (.int w)) →
    Go p e below (Done s below (fun v h L => v = none ∧ Fr Z.heap.size L ∧ BI Z h b cnt FB (sk.drop (sk.length - mk.toInt.toNat)) ∧ Old Z Z.heap.size h) kc kn) T0 (mkF m 0 #[.val (.ref b), .val (.int mk), s2, s3] []) := by
  intro sk
  induction sk with
  | nil =>
    intro T0 locs s2 s3 X0 N0 Ol0 hB hlen hsl
    have hB' := hB
    obtain ⟨fa, ta, ma, sa, kf, kt, km, ki, ks, fn, fl, tr, sz, mf, HB0, PI0, hfn, hFB, hk1, hk8⟩ := hB'
    refine g_aloadN X0 K (q := 1) d7_0 rfl rfl rfl ?_
    refine g_getf X0 K (q := 4) (w31 H) Via.refl rfl HB0.fN d7_1 rfl ?_
    intro T1 X1 e1
    refine g_iloadN X1 K (q := 5) d7_4 rfl rfl ?_
    have hn : ¬ (mk < (Int32.ofNat ([] : Stk).length)) := by rw [Int32.lt_iff_toInt_lt]; have : (Int32.ofNat ([] : Stk).length).toInt = 0 := rfl; omega
    refine g_icY X1 K (q := 63) d7_5 (flt hn).2.2.2 (by decide) (by decide) ?_
    refine g_ret X1 K d7_63 hc hs ?_
    refine ⟨rfl, N0, ?_, by rw [e1]; exact Ol0⟩
    rw [drop_all (st := []) (Nat.zero_le _), e1]
    exact hB
  | cons x r ih =>
    obtain ⟨xs, xf⟩ := x
    intro T0 locs s2 s3 X0 N0 Ol0 hB hlen hsl
    have hB' := hB
    obtain ⟨fa, ta, ma, sa, kf, kt, km, ki, ks, fn, fl, tr, sz, mf, HB0, PI0, hfn, hFB, hk1, hk8⟩ := hB'
    rw [List.length_cons] at hlen
    obtain ⟨t1, t2, t3, h0, h1, f0, f1⟩ := PI0.top
    have hs8 : xs.toInt < 8 := by omega
    have hsB := inb h0 h1
    have hsN := nat_lt hsB
    have hcl := cnt_le r xs
    have hcI := ofNat_toInt (n := cntS r xs) (by omega)
    have hrI := ofNat_toInt (n := r.length) (by omega)
    rcases hsl with ⟨rfl, rfl⟩ | ⟨u, w, rfl, rfl⟩
    · refine g_aloadN X0 K (q := 1) d7_0 rfl rfl rfl ?_
      refine g_getf X0 K (q := 4) (w31 H) Via.refl rfl HB0.fN d7_1 rfl ?_
      intro T1 X1 e1
      refine g_iloadN X1 K (q := 5) d7_4 rfl rfl ?_
      by_cases hc1 : mk < (Int32.ofNat (r.length + 1))
      · refine g_icN X1 K (q := 8) d7_5 (tlt hc1).2.2.2 rfl ?_
        have hle : mk.toInt.toNat ≤ r.length := by
          have q := Int32.lt_iff_toInt_lt.mp hc1
          rw [ofNat_toInt (by omega)] at q
          omega
        rw [drop_cons hle]
        refine g_aloadN X1 K (q := 9) d7_8 rfl rfl rfl ?_
        refine g_getf X1 K (q := 12) (w12 H) Via.refl e1 HB0.fT d7_9 rfl ?_
        intro T2 X2 e2
        refine g_aloadN X2 K (q := 13) d7_12 rfl rfl rfl ?_
        refine g_dup X2 K (q := 14) d7_13 rfl rfl ?_
        refine g_getf X2 K (q := 17) (w31 H) Via.refl e2 HB0.fN d7_14 rfl ?_
        intro T3 X3 e3
        refine g_iconst X3 K (q := 18) (v := (1 : Int32)) d7_17 (by decide) rfl ?_
        refine g_isub X3 K (q := 19) (z := (Int32.ofNat r.length)) d7_18 ofNat_pred rfl ?_
        refine g_dupX1 X3 K (q := 20) d7_19 rfl rfl rfl ?_
        refine g_putf X3 K (q := 23) (w31 H) Via.refl e3 HB0.fN HB0.exa (Or.inl (w32 H)) (w1 H) (ty := .int) (by decide) rfl rfl d7_20 rfl ?_
        intro T4 h4 X4 e4 W4 F4
        have N4 := Fr.snoc X4 N0 HB0.gb
        have Ol4 := Ol0.wr W4 HB0.gb
        have HB1 := HB.wTs (lb H) HB0 W4
        refine g_balF X4 K (q := 24) (z := xs) e4 HB1.aT (inb (n := (64 : Int32)) (by omega) (by have z : (64 : Int32).toInt = 64 := rfl; omega)) (by rw [ofNat_clamp (by omega)]; exact t1) d7_23 rfl ?_
        refine g_istoreN X4 K (q := 25) (L' := #[.val (.ref b), .val (.int mk), .val (.int xs), .unset]) d7_24 rfl rfl ?_
        refine g_aloadN X4 K (q := 26) d7_25 rfl rfl rfl ?_
        refine g_getf X4 K (q := 29) (w17 H) Via.refl e4 HB1.fM d7_26 rfl ?_
        intro T5 X5 e5
        refine g_iloadN X5 K (q := 30) d7_29 rfl rfl ?_
        refine g_aald X5 K (q := 31) (v := (.ref (ma + 1 + xs.toNatClampNeg))) e5 HB1.aM rfl hsB (outer_at hsN) d7_30 rfl ?_
        refine g_aloadN X5 K (q := 32) d7_31 rfl rfl rfl ?_
        refine g_getf X5 K (q := 35) (w19 H) Via.refl e5 HB1.fS d7_32 rfl ?_
        intro T6 X6 e6
        refine g_iloadN X6 K (q := 36) d7_35 rfl rfl ?_
        refine g_dup2 X6 K (q := 37) d7_36 rfl rfl rfl ?_
        refine g_ialF X6 K (q := 38) (z := (Int32.ofNat (cntS r xs + 1))) e6 HB1.aS hsB t3 d7_37 rfl ?_
        refine g_iconst X6 K (q := 39) (v := (1 : Int32)) d7_38 (by decide) rfl ?_
        refine g_isub X6 K (q := 40) (z := (Int32.ofNat (cntS r xs))) d7_39 ofNat_pred rfl ?_
        refine g_dupX2 X6 K (q := 41) d7_40 rfl rfl rfl rfl ?_
        refine g_iasF X6 K (q := 42) e6 HB1.aS hsB d7_41 rfl ?_
        intro T7 h7 X7 e7 W7
        have N7 := Fr.snoc X7 N4 HB1.gs
        have Ol7 := Ol4.wr W7 HB1.gs
        have HB2 := HB1.wS hsB W7
        refine g_ialF X7 K (q := 43) (z := xf) e7 (HB2.aI hsN) (inb (n := (16 : Int32)) (by omega) (by have z : (16 : Int32).toInt = 16 := rfl; omega)) (by rw [ofNat_clamp (by omega)]; exact t2) d7_42 rfl ?_
        refine g_istoreN X7 K (q := 44) (L' := #[.val (.ref b), .val (.int mk), .val (.int xs), .val (.int xf)]) d7_43 rfl rfl ?_
        refine g_aloadN X7 K (q := 45) d7_44 rfl rfl rfl ?_
        refine g_getf X7 K (q := 48) (w10 H) Via.refl e7 HB2.fF d7_45 rfl ?_
        intro T8 X8 e8
        refine g_iloadN X8 K (q := 49) d7_48 rfl rfl ?_
        refine g_dup2 X8 K (q := 50) d7_49 rfl rfl rfl ?_
        refine g_balF X8 K (q := 51) (z := (fl xf.toNatClampNeg)) e8 HB2.aF (inb f0 f1) rfl d7_50 rfl ?_
        refine g_iconst X8 K (q := 52) (v := (1 : Int32)) d7_51 (by decide) rfl ?_
        refine g_iloadN X8 K (q := 53) d7_52 rfl rfl ?_
        refine g_ishl X8 K (q := 54) d7_53 rfl rfl ?_
        refine g_iconst X8 K (q := 55) (v := (-1 : Int32)) d7_54 (by decide) rfl ?_
        refine g_ixor X8 K (q := 56) d7_55 rfl rfl ?_
        refine g_i2b X8 K (q := 57) d7_56 rfl rfl ?_
        refine g_iand X8 K (q := 58) d7_57 rfl rfl ?_
        refine g_i2b X8 K (q := 59) d7_58 rfl rfl ?_
        refine g_basF X8 K (q := 60) (z := (delB (fl xf.toNatClampNeg) xs)) e8 HB2.aF (inb f0 f1) rfl d7_59 rfl ?_
        intro T9 h9 X9 e9 W9
        have N9 := Fr.snoc X9 N7 HB2.gf
        have Ol9 := Ol7.wr W9 HB2.gf
        have HB3 := HB2.wF (inb f0 f1) (fits_nar_byte _) W9
        refine g_goto X9 K (q := 0) d7_60 (by decide) (by decide) ?_
        have hB' : BI Z T9.heap b cnt FB r := by rw [e9]; exact ⟨_, _, _, _, _, _, _, _, _, _, _, _, _, _, HB3, PI0.pop hk8 rfl rfl, hfn, hFB, hk1, hk8⟩
        exact ih T9 _ _ _ X9 N9 (by rw [e9]; exact Ol9) hB' (by omega) (Or.inr ⟨_, _, rfl, rfl⟩)
      · refine g_icY X1 K (q := 63) d7_5 (flt hc1).2.2.2 (by decide) (by decide) ?_
        refine g_ret X1 K d7_63 hc hs ?_
        have hle : r.length + 1 ≤ mk.toInt.toNat := by
          have q : ¬ (mk.toInt < (Int32.ofNat (r.length + 1)).toInt) := fun q => hc1 (Int32.lt_iff_toInt_lt.mpr q)
          rw [ofNat_toInt (by omega)] at q
          omega
        refine ⟨rfl, N0, ?_, by rw [e1]; exact Ol0⟩
        rw [drop_all (st := ((xs, xf) :: r)) hle, e1]
        exact hB
    · refine g_aloadN X0 K (q := 1) d7_0 rfl rfl rfl ?_
      refine g_getf X0 K (q := 4) (w31 H) Via.refl rfl HB0.fN d7_1 rfl ?_
      intro T1 X1 e1
      refine g_iloadN X1 K (q := 5) d7_4 rfl rfl ?_
      by_cases hc1 : mk < (Int32.ofNat (r.length + 1))
      · refine g_icN X1 K (q := 8) d7_5 (tlt hc1).2.2.2 rfl ?_
        have hle : mk.toInt.toNat ≤ r.length := by
          have q := Int32.lt_iff_toInt_lt.mp hc1
          rw [ofNat_toInt (by omega)] at q
          omega
        rw [drop_cons hle]
        refine g_aloadN X1 K (q := 9) d7_8 rfl rfl rfl ?_
        refine g_getf X1 K (q := 12) (w12 H) Via.refl e1 HB0.fT d7_9 rfl ?_
        intro T2 X2 e2
        refine g_aloadN X2 K (q := 13) d7_12 rfl rfl rfl ?_
        refine g_dup X2 K (q := 14) d7_13 rfl rfl ?_
        refine g_getf X2 K (q := 17) (w31 H) Via.refl e2 HB0.fN d7_14 rfl ?_
        intro T3 X3 e3
        refine g_iconst X3 K (q := 18) (v := (1 : Int32)) d7_17 (by decide) rfl ?_
        refine g_isub X3 K (q := 19) (z := (Int32.ofNat r.length)) d7_18 ofNat_pred rfl ?_
        refine g_dupX1 X3 K (q := 20) d7_19 rfl rfl rfl ?_
        refine g_putf X3 K (q := 23) (w31 H) Via.refl e3 HB0.fN HB0.exa (Or.inl (w32 H)) (w1 H) (ty := .int) (by decide) rfl rfl d7_20 rfl ?_
        intro T4 h4 X4 e4 W4 F4
        have N4 := Fr.snoc X4 N0 HB0.gb
        have Ol4 := Ol0.wr W4 HB0.gb
        have HB1 := HB.wTs (lb H) HB0 W4
        refine g_balF X4 K (q := 24) (z := xs) e4 HB1.aT (inb (n := (64 : Int32)) (by omega) (by have z : (64 : Int32).toInt = 64 := rfl; omega)) (by rw [ofNat_clamp (by omega)]; exact t1) d7_23 rfl ?_
        refine g_istoreN X4 K (q := 25) (L' := #[.val (.ref b), .val (.int mk), .val (.int xs), .val (.int w)]) d7_24 rfl rfl ?_
        refine g_aloadN X4 K (q := 26) d7_25 rfl rfl rfl ?_
        refine g_getf X4 K (q := 29) (w17 H) Via.refl e4 HB1.fM d7_26 rfl ?_
        intro T5 X5 e5
        refine g_iloadN X5 K (q := 30) d7_29 rfl rfl ?_
        refine g_aald X5 K (q := 31) (v := (.ref (ma + 1 + xs.toNatClampNeg))) e5 HB1.aM rfl hsB (outer_at hsN) d7_30 rfl ?_
        refine g_aloadN X5 K (q := 32) d7_31 rfl rfl rfl ?_
        refine g_getf X5 K (q := 35) (w19 H) Via.refl e5 HB1.fS d7_32 rfl ?_
        intro T6 X6 e6
        refine g_iloadN X6 K (q := 36) d7_35 rfl rfl ?_
        refine g_dup2 X6 K (q := 37) d7_36 rfl rfl rfl ?_
        refine g_ialF X6 K (q := 38) (z := (Int32.ofNat (cntS r xs + 1))) e6 HB1.aS hsB t3 d7_37 rfl ?_
        refine g_iconst X6 K (q := 39) (v := (1 : Int32)) d7_38 (by decide) rfl ?_
        refine g_isub X6 K (q := 40) (z := (Int32.ofNat (cntS r xs))) d7_39 ofNat_pred rfl ?_
        refine g_dupX2 X6 K (q := 41) d7_40 rfl rfl rfl rfl ?_
        refine g_iasF X6 K (q := 42) e6 HB1.aS hsB d7_41 rfl ?_
        intro T7 h7 X7 e7 W7
        have N7 := Fr.snoc X7 N4 HB1.gs
        have Ol7 := Ol4.wr W7 HB1.gs
        have HB2 := HB1.wS hsB W7
        refine g_ialF X7 K (q := 43) (z := xf) e7 (HB2.aI hsN) (inb (n := (16 : Int32)) (by omega) (by have z : (16 : Int32).toInt = 16 := rfl; omega)) (by rw [ofNat_clamp (by omega)]; exact t2) d7_42 rfl ?_
        refine g_istoreN X7 K (q := 44) (L' := #[.val (.ref b), .val (.int mk), .val (.int xs), .val (.int xf)]) d7_43 rfl rfl ?_
        refine g_aloadN X7 K (q := 45) d7_44 rfl rfl rfl ?_
        refine g_getf X7 K (q := 48) (w10 H) Via.refl e7 HB2.fF d7_45 rfl ?_
        intro T8 X8 e8
        refine g_iloadN X8 K (q := 49) d7_48 rfl rfl ?_
        refine g_dup2 X8 K (q := 50) d7_49 rfl rfl rfl ?_
        refine g_balF X8 K (q := 51) (z := (fl xf.toNatClampNeg)) e8 HB2.aF (inb f0 f1) rfl d7_50 rfl ?_
        refine g_iconst X8 K (q := 52) (v := (1 : Int32)) d7_51 (by decide) rfl ?_
        refine g_iloadN X8 K (q := 53) d7_52 rfl rfl ?_
        refine g_ishl X8 K (q := 54) d7_53 rfl rfl ?_
        refine g_iconst X8 K (q := 55) (v := (-1 : Int32)) d7_54 (by decide) rfl ?_
        refine g_ixor X8 K (q := 56) d7_55 rfl rfl ?_
        refine g_i2b X8 K (q := 57) d7_56 rfl rfl ?_
        refine g_iand X8 K (q := 58) d7_57 rfl rfl ?_
        refine g_i2b X8 K (q := 59) d7_58 rfl rfl ?_
        refine g_basF X8 K (q := 60) (z := (delB (fl xf.toNatClampNeg) xs)) e8 HB2.aF (inb f0 f1) rfl d7_59 rfl ?_
        intro T9 h9 X9 e9 W9
        have N9 := Fr.snoc X9 N7 HB2.gf
        have Ol9 := Ol7.wr W9 HB2.gf
        have HB3 := HB2.wF (inb f0 f1) (fits_nar_byte _) W9
        refine g_goto X9 K (q := 0) d7_60 (by decide) (by decide) ?_
        have hB' : BI Z T9.heap b cnt FB r := by rw [e9]; exact ⟨_, _, _, _, _, _, _, _, _, _, _, _, _, _, HB3, PI0.pop hk8 rfl rfl, hfn, hFB, hk1, hk8⟩
        exact ih T9 _ _ _ X9 N9 (by rw [e9]; exact Ol9) hB' (by omega) (Or.inr ⟨_, _, rfl, rfl⟩)
      · refine g_icY X1 K (q := 63) d7_5 (flt hc1).2.2.2 (by decide) (by decide) ?_
        refine g_ret X1 K d7_63 hc hs ?_
        have hle : r.length + 1 ≤ mk.toInt.toNat := by
          have q : ¬ (mk.toInt < (Int32.ofNat (r.length + 1)).toInt) := fun q => hc1 (Int32.lt_iff_toInt_lt.mpr q)
          rw [ofNat_toInt (by omega)] at q
          omega
        refine ⟨rfl, N0, ?_, by rw [e1]; exact Ol0⟩
        rw [drop_all (st := ((xs, xf) :: r)) hle, e1]
        exact hB
set_option maxRecDepth 65536 in
set_option maxHeartbeats 40000000 in
theorem rmU (l : Launch) {Z : State} {a0 : Array Value} (H : Hyp Z a0) (b : Addr) (cnt mk : Int32) (FB : Int) (sk : Stk) (h0 : Heap) (Ol : Old Z Z.heap.size h0) (hB : BI Z h0 b cnt FB sk) (hm0 : 0 ≤ mk.toInt) (hlen : sk.length ≤ 10) :
    Mt l Z (⟨"com/example/stets/stets/automaton/BranchSets", "undoTo", "(I)V"⟩ : MethodName) prog_6_method_8_code 4 none [] ({ frames := 0, cells := 0, slots := 0, locals := 0 } : Room) #[(.ref b), (.int mk)] h0 (fun v h L => v = none ∧ Fr Z.heap.size L ∧ BI Z h b cnt FB (sk.drop (sk.length - mk.toInt.toNat)) ∧ Old Z Z.heap.size h) := by
  refine g_body (plainFor_of_name pn_com_example_stets_stets_automaton_BranchSets) ?_
  intro p e s m below meth c T0 K X0 e0
  refine g_entry (ef_5 m b mk) ?_
  have N0 : Fr Z.heap.size [] := Fr.nil _
  have Ol0 := Ol
  exact undoL H K hm0 (Nat.le_refl _) (Nat.le_refl _) sk T0 _ _ _ X0 N0 (by rw [e0]; exact Ol) (by rw [e0]; exact hB) hlen (Or.inl ⟨rfl, rfl⟩)
set_option maxRecDepth 65536 in
set_option maxHeartbeats 40000000 in
theorem rmI (l : Launch) {Z : State} {a0 : Array Value} (H : Hyp Z a0) (b : Addr) (cnt : Int32) (h0 : Heap) (Ol : Old Z Z.heap.size h0) (hE : Exa Z h0 b BS) (h_flags : Fld Z h0 b BS "flags" "[B" .null) (h_trail : Fld Z h0 b BS "trail" "[B" .null) (h_members : Fld Z h0 b BS "members" "[[I" .null) (h_sizes : Fld Z h0 b BS "sizes" "[I" .null) (h_trailSize : Fld Z h0 b BS "trailSize" "I" (.int (0 : Int32))) (hgb : Z.heap.size ≤ b) (hk1 : 1 ≤ cnt.toInt) (hk8 : cnt.toInt ≤ 8) :
    Mt l Z (⟨"com/example/stets/stets/automaton/BranchSets", "<init>", "(I)V"⟩ : MethodName) prog_6_method_1_code 2 none [] ({ frames := 1, cells := 12, slots := 272, locals := 12 } : Room) #[(.ref b), (.int cnt)] h0 (fun v h L => v = none ∧ Fr Z.heap.size L ∧ BI Z h b cnt 64 [] ∧ Old Z Z.heap.size h) := by
  refine g_body (plainFor_of_name pn_com_example_stets_stets_automaton_BranchSets) ?_
  intro p e s m below meth c T0 K X0 e0
  refine g_entry (ef_2 m b cnt) ?_
  have N0 : Fr Z.heap.size [] := Fr.nil _
  have Ol0 := Ol
  have hcn : ¬ ((8 : Int32) < cnt) := by rw [Int32.lt_iff_toInt_lt]; have : (8 : Int32).toInt = 8 := rfl; omega
  have hc0 : ¬ (cnt < (0 : Int32)) := by rw [Int32.lt_iff_toInt_lt]; have : (0 : Int32).toInt = 0 := rfl; omega
  refine g_aloadN X0 K (q := 1) d1_0 rfl rfl rfl ?_
  refine g_init X0 K (q := 4) (W := 0) (w6 H) (w7 H) (w8 H) e0 rfl d1_1 (by decide) (Nat.le_of_eq rfl) (by decide) rfl ?_
  intro T1 X1 e1
  refine g_aloadN X1 K (q := 5) d1_4 rfl rfl rfl ?_
  refine g_bipush X1 K (q := 7) (v := (64 : Int32)) d1_5 (by decide) rfl ?_
  refine g_newp X1 K (q := 9) (cap := 64) (ty := .byte) (vs := List.replicate 64 (.int (0 : Int32))) (w9 H) rfl e1 d1_7 (by decide) (by decide) rfl (by decide) (by decide) (by decide) rfl ?_
  intro T2 h2 b2 kA2 X2 e2 E2 z2 A2q
  have A2 := Arf.of_rep A2q (by decide)
  have ge2 : Z.heap.size ≤ b2 := Nat.le_trans Ol0.2.1 (Nat.le_of_eq z2)
  have lk2 : b < b2 := Nat.lt_of_lt_of_eq hE.lt z2
  have Ol2 := Ol0.ext E2
  have f1 := (h_flags.ext E2)
  have f2 := (hE.ext E2)
  refine g_putf X2 K (q := 12) (w10 H) Via.refl e2 f1 f2 (Or.inl (w11 H)) (w1 H) (ty := (.array .byte)) (by decide) rfl rfl d1_9 rfl ?_
  intro T3 h3 X3 e3 W3 F3
  have N3 := Fr.snoc X3 N0 hgb
  have Ol3 := Ol2.wr W3 hgb
  refine g_aloadN X3 K (q := 13) d1_12 rfl rfl rfl ?_
  refine g_bipush X3 K (q := 15) (v := (64 : Int32)) d1_13 (by decide) rfl ?_
  refine g_newp X3 K (q := 17) (cap := 64) (ty := .byte) (vs := List.replicate 64 (.int (0 : Int32))) (w9 H) rfl e3 d1_15 (by decide) (by decide) rfl (by decide) (by decide) (by decide) rfl ?_
  intro T4 h4 b4 kA4 X4 e4 E4 z4 A4q
  have A4 := Arf.of_rep A4q (by decide)
  have ge4 : Z.heap.size ≤ b4 := Nat.le_trans Ol3.2.1 (Nat.le_of_eq z4)
  have ne1 : b ≠ b2 := (Nat.ne_of_lt lk2)
  have f3 := (A2.other W3 (Ne.symm ne1))
  have lk4 : b2 < b4 := Nat.lt_of_lt_of_eq f3.lt z4
  have Ol4 := Ol3.ext E4
  have f4 := (((h_trail.ext E2).other W3 (Or.inr (slot_ne (a0 := a0) (Or.inl (w13 H)) (Or.inl (w11 H)) (by decide) (t := (.array .byte)) (t' := (.array .byte)) (by decide) (by decide)))).ext E4)
  have f5 := ((f2.wr W3).ext E4)
  refine g_putf X4 K (q := 20) (w12 H) Via.refl e4 f4 f5 (Or.inl (w13 H)) (w1 H) (ty := (.array .byte)) (by decide) rfl rfl d1_17 rfl ?_
  intro T5 h5 X5 e5 W5 F5
  have N5 := Fr.snoc X5 N3 hgb
  have Ol5 := Ol4.wr W5 hgb
  refine g_iloadN X5 K (q := 21) d1_20 rfl rfl ?_
  refine g_bipush X5 K (q := 23) (v := (8 : Int32)) d1_21 (by decide) rfl ?_
  refine g_icY X5 K (q := 40) d1_23 (flt hcn).2.2.2 (by decide) (by decide) ?_
  refine g_aloadN X5 K (q := 41) d1_40 rfl rfl rfl ?_
  refine g_iloadN X5 K (q := 42) d1_41 rfl rfl ?_
  refine g_bipush X5 K (q := 44) (v := (16 : Int32)) d1_42 (by decide) rfl ?_
  refine g_gridF X5 K (q := 48) (w14 H) (w15 H) (w16 H) e5 d1_44 hk1 hk8 (by decide) (by decide) rfl ?_
  intro T6 h6 b6 kA6 kI6 X6 e6 E6 z6 A6 I6
  have ge6 : Z.heap.size ≤ b6 := Nat.le_trans Ol5.2.1 (Nat.le_of_eq z6)
  have ne2 : b ≠ b4 := (Nat.ne_of_lt (Nat.lt_trans lk2 lk4))
  have f6 := (A4.other W5 (Ne.symm ne2))
  have lk6 : b4 < b6 := Nat.lt_of_lt_of_eq f6.lt z6
  have Ol6 := Ol5.ext E6
  have f7 := (((((h_members.ext E2).other W3 (Or.inr (slot_ne (a0 := a0) (Or.inr (w18 H)) (Or.inl (w11 H)) (by decide) (t := (.array (.array .int))) (t' := (.array .byte)) (by decide) (by decide)))).ext E4).other W5 (Or.inr (slot_ne (a0 := a0) (Or.inr (w18 H)) (Or.inl (w13 H)) (by decide) (t := (.array (.array .int))) (t' := (.array .byte)) (by decide) (by decide)))).ext E6)
  have f8 := ((f5.wr W5).ext E6)
  refine g_putf X6 K (q := 51) (w17 H) Via.refl e6 f7 f8 (Or.inr ⟨(w18 H), rfl, rfl⟩) (w1 H) (ty := (.array (.array .int))) (by decide) rfl rfl d1_48 rfl ?_
  intro T7 h7 X7 e7 W7 F7
  have N7 := Fr.snoc X7 N5 hgb
  have Ol7 := Ol6.wr W7 hgb
  refine g_aloadN X7 K (q := 52) d1_51 rfl rfl rfl ?_
  refine g_iloadN X7 K (q := 53) d1_52 rfl rfl ?_
  refine g_newp X7 K (q := 55) (cap := 8) (ty := .int) (vs := List.replicate 8 (.int (0 : Int32))) (w16 H) rfl e7 d1_53 hc0 (by simp only [Int32.toNatClampNeg]; omega) rfl (by decide) (by decide) (by decide) rfl ?_
  intro T8 h8 b8 kA8 X8 e8 E8 z8 A8q
  have A8 := Arf.of_rep A8q (by simp only [Int32.toNatClampNeg]; omega)
  have ge8 : Z.heap.size ≤ b8 := Nat.le_trans Ol7.2.1 (Nat.le_of_eq z8)
  have ne3 : b ≠ b6 := (Nat.ne_of_lt (Nat.lt_trans lk2 (Nat.lt_trans lk4 lk6)))
  have f9 := (A6.other W7 (Ne.symm ne3))
  have lk8 : b6 < b8 := Nat.lt_of_lt_of_eq f9.lt z8
  have Ol8 := Ol7.ext E8
  have f10 := (((((((h_sizes.ext E2).other W3 (Or.inr (slot_ne (a0 := a0) (Or.inr (w20 H)) (Or.inl (w11 H)) (by decide) (t := (.array .int)) (t' := (.array .byte)) (by decide) (by decide)))).ext E4).other W5 (Or.inr (slot_ne (a0 := a0) (Or.inr (w20 H)) (Or.inl (w13 H)) (by decide) (t := (.array .int)) (t' := (.array .byte)) (by decide) (by decide)))).ext E6).other W7 (Or.inr (slot_ne (a0 := a0) (Or.inr (w20 H)) (Or.inr (w18 H)) (by decide) (t := (.array .int)) (t' := (.array (.array .int))) (by decide) (by decide)))).ext E8)
  have f11 := ((f8.wr W7).ext E8)
  refine g_putf X8 K (q := 58) (w19 H) Via.refl e8 f10 f11 (Or.inr ⟨(w20 H), rfl, rfl⟩) (w1 H) (ty := (.array .int)) (by decide) rfl rfl d1_55 rfl ?_
  intro T9 h9 X9 e9 W9 F9
  have N9 := Fr.snoc X9 N7 hgb
  have Ol9 := Ol8.wr W9 hgb
  refine g_ret X9 K d1_58 (by decide) (by decide) ?_
  have f12 := ((((((F3.ext E4).other W5 (Or.inr (slot_ne (a0 := a0) (Or.inl (w11 H)) (Or.inl (w13 H)) (by decide) (t := (.array .byte)) (t' := (.array .byte)) (by decide) (by decide)))).ext E6).other W7 (Or.inr (slot_ne (a0 := a0) (Or.inl (w11 H)) (Or.inr (w18 H)) (by decide) (t := (.array .byte)) (t' := (.array (.array .int))) (by decide) (by decide)))).ext E8).other W9 (Or.inr (slot_ne (a0 := a0) (Or.inl (w11 H)) (Or.inr (w20 H)) (by decide) (t := (.array .byte)) (t' := (.array .int)) (by decide) (by decide))))
  have f13 := ((((F5.ext E6).other W7 (Or.inr (slot_ne (a0 := a0) (Or.inl (w13 H)) (Or.inr (w18 H)) (by decide) (t := (.array .byte)) (t' := (.array (.array .int))) (by decide) (by decide)))).ext E8).other W9 (Or.inr (slot_ne (a0 := a0) (Or.inl (w13 H)) (Or.inr (w20 H)) (by decide) (t := (.array .byte)) (t' := (.array .int)) (by decide) (by decide))))
  have f14 := ((F7.ext E8).other W9 (Or.inr (slot_ne (a0 := a0) (Or.inr (w18 H)) (Or.inr (w20 H)) (by decide) (t := (.array (.array .int))) (t' := (.array .int)) (by decide) (by decide))))
  have f15 := ((((((((h_trailSize.ext E2).other W3 (Or.inr (slot_ne (a0 := a0) (Or.inl (w32 H)) (Or.inl (w11 H)) (by decide) (t := .int) (t' := (.array .byte)) (by decide) (by decide)))).ext E4).other W5 (Or.inr (slot_ne (a0 := a0) (Or.inl (w32 H)) (Or.inl (w13 H)) (by decide) (t := .int) (t' := (.array .byte)) (by decide) (by decide)))).ext E6).other W7 (Or.inr (slot_ne (a0 := a0) (Or.inl (w32 H)) (Or.inr (w18 H)) (by decide) (t := .int) (t' := (.array (.array .int))) (by decide) (by decide)))).ext E8).other W9 (Or.inr (slot_ne (a0 := a0) (Or.inl (w32 H)) (Or.inr (w20 H)) (by decide) (t := .int) (t' := (.array .int)) (by decide) (by decide))))
  have f16 := (f11.wr W9)
  have f17 := ((((((f3.ext E4).other W5 (Ne.symm ne1)).ext E6).other W7 (Ne.symm ne1)).ext E8).other W9 (Ne.symm ne1))
  have f18 := ((((f6.ext E6).other W7 (Ne.symm ne2)).ext E8).other W9 (Ne.symm ne2))
  have f19 := ((f9.ext E8).other W9 (Ne.symm ne3))
  have ne4 : b ≠ b8 := (Nat.ne_of_lt (Nat.lt_trans lk2 (Nat.lt_trans lk4 (Nat.lt_trans lk6 lk8))))
  have f20 := (A8.other W9 (Ne.symm ne4))
  have hbm : b < b6 := Nat.lt_trans lk2 (Nat.lt_trans lk4 lk6)
  have hI := fun (j : Nat) (hj : j < cnt.toNatClampNeg) => ((((I6 j hj).other W7 (Nat.ne_of_gt (Nat.lt_of_lt_of_le hbm (Nat.le_trans (Nat.le_add_right _ 1) (Nat.le_add_right _ j))))).ext E8).other W9 (Nat.ne_of_gt (Nat.lt_of_lt_of_le hbm (Nat.le_trans (Nat.le_add_right _ 1) (Nat.le_add_right _ j)))))
  have hIs : ∀ j, j < cnt.toNatClampNeg → b6 + 1 + j < b8 := fun j hj => Nat.lt_of_lt_of_eq ((I6 j hj).other W7 (Nat.ne_of_gt (Nat.lt_of_lt_of_le hbm (Nat.le_trans (Nat.le_add_right _ 1) (Nat.le_add_right _ j))))).lt z8
  refine ⟨rfl, N9, ?_, by rw [e9]; exact Ol9⟩
  rw [e9]
  exact ⟨b2, b4, b6, b8, _, _, _, _, _, (64 : Int32), _, _, _, (fun _ _ => 0), ⟨f16, f12, f13, f14, F9, f15, f17, f18, f19, hI, f20, Ds.make lk2 lk4 lk6 lk8 hIs, hgb, ge2, ge4, ge6, ge8⟩, PI.nil, Or.inl (by decide), by decide, hk1, hk8⟩
set_option maxRecDepth 65536 in
set_option maxHeartbeats 40000000 in
theorem rm6_10 (l : Launch) {Z : State} {a0 : Array Value} (H : Hyp Z a0) (p1 : Int32) (h0 : Heap) (Ol : Old Z Z.heap.size h0) (h01_1 : p1 = 0 ∨ p1 = 1) :
    Mt l Z (⟨"com/example/stets/stets/automaton/BranchSetsUndoToPinLaw", "one", "(Z)I"⟩ : MethodName) method_3_code 1 (some .int) [] ({ frames := 0, cells := 0, slots := 0, locals := 0 } : Room) #[(.int p1)] h0 (fun v h L => (v = some (.int p1) ∧ Fr Z.heap.size L ∧ h = h0)) := by
  refine g_body (plainFor_of_name pn_com_example_stets_stets_automaton_BranchSetsUndoToPinLaw) ?_
  intro p e s m below meth c T0 K X0 e0
  refine g_entry (ef_6 m p1) ?_
  have N0 : Fr Z.heap.size [] := Fr.nil _
  have Ol0 := Ol
  have Kp0 : Keep h0 h0 [] := Keep.refl h0 _
  refine g_iloadN X0 K (q := 1) d6_0 rfl rfl ?_
  by_cases hc1 : p1 = (0 : Int32)
  · subst hc1
    refine g_ifY X0 K (q := 8) d6_1 (by decide) (by decide) (by decide) ?_
    refine g_iconst X0 K (q := 9) (v := (0 : Int32)) d6_8 (by decide) rfl ?_
    refine g_iret X0 K d6_9 (by decide) (by decide) ?_
    exact ⟨rfl, N0, e0⟩
  · refine g_ifN X0 K (q := 4) d6_1 (feq hc1).1 rfl ?_
    refine g_iconst X0 K (q := 5) (v := (1 : Int32)) d6_4 (by decide) rfl ?_
    refine g_goto X0 K (q := 9) d6_5 (by decide) (by decide) ?_
    refine g_iret X0 K d6_9 (by decide) (by decide) ?_
    exact ⟨own_some (h01_1.resolve_left hc1).symm, N0, e0⟩
set_option maxRecDepth 65536 in
set_option maxHeartbeats 40000000 in
theorem rm5_11 (l : Launch) {Z : State} {a0 : Array Value} (H : Hyp Z a0) (p1 : Int32) (p2 : Int32) (p3 : Int32) (p4 : Int32) (h0 : Heap) (Ol : Old Z Z.heap.size h0) :
    Mt l Z (⟨"com/example/stets/stets/automaton/BranchSetsUndoToPinLaw", "same", "(IIII)Z"⟩ : MethodName) method_2_code 4 (some .boolean) [] ({ frames := 0, cells := 0, slots := 0, locals := 0 } : Room) #[(.int p1), (.int p2), (.int p3), (.int p4)] h0 (fun v h L => (v = some (.int (b2 (p1 = p3 ∧ p2 = p4))) ∧ Fr Z.heap.size L ∧ h = h0)) := by
  refine g_body (plainFor_of_name pn_com_example_stets_stets_automaton_BranchSetsUndoToPinLaw) ?_
  intro p e s m below meth c T0 K X0 e0
  refine g_entry (ef_7 m p1 p2 p3 p4) ?_
  have N0 : Fr Z.heap.size [] := Fr.nil _
  have Ol0 := Ol
  have Kp0 : Keep h0 h0 [] := Keep.refl h0 _
  refine g_iloadN X0 K (q := 1) d5_0 rfl rfl ?_
  refine g_iloadN X0 K (q := 2) d5_1 rfl rfl ?_
  by_cases hc1 : p1 = p3
  · refine g_icN X0 K (q := 5) d5_2 (teq hc1).2 rfl ?_
    refine g_iloadN X0 K (q := 6) d5_5 rfl rfl ?_
    refine g_iloadN X0 K (q := 7) d5_6 rfl rfl ?_
    by_cases hc2 : p2 = p4
    · refine g_icN X0 K (q := 10) d5_7 (teq hc2).2 rfl ?_
      refine g_iconst X0 K (q := 11) (v := (1 : Int32)) d5_10 (by decide) rfl ?_
      refine g_goto X0 K (q := 15) d5_11 (by decide) (by decide) ?_
      refine g_nret X0 K (by simp) (z' := (1 : Int32)) (by decide) d5_15 (by decide) (by decide) ?_
      exact ⟨own_some (b2_1 ⟨hc1, hc2⟩), N0, e0⟩
    · refine g_icY X0 K (q := 14) d5_7 (feq hc2).2 (by decide) (by decide) ?_
      refine g_iconst X0 K (q := 15) (v := (0 : Int32)) d5_14 (by decide) rfl ?_
      refine g_nret X0 K (by simp) (z' := (0 : Int32)) (by decide) d5_15 (by decide) (by decide) ?_
      exact ⟨own_some (b2_0 fun q => hc2 q.2), N0, e0⟩
  · refine g_icY X0 K (q := 14) d5_2 (feq hc1).2 (by decide) (by decide) ?_
    refine g_iconst X0 K (q := 15) (v := (0 : Int32)) d5_14 (by decide) rfl ?_
    refine g_nret X0 K (by simp) (z' := (0 : Int32)) (by decide) d5_15 (by decide) (by decide) ?_
    exact ⟨own_some (b2_0 fun q => hc1 q.1), N0, e0⟩
set_option maxRecDepth 65536 in
set_option maxHeartbeats 40000000 in
theorem rm0 (l : Launch) {Z : State} {a0 : Array Value} (H : Hyp Z a0) (p0 : Int32) (p1 : Int32) (p2 : Int32) (p3 : Int32) (h0 : Heap) (Ol : Old Z Z.heap.size h0) :
    Mt l Z x code maxLocals ret tables_1 room_1 #[(.int p0), (.int p1), (.int p2), (.int p3)] h0 (fun v h L => v = some (.int 1) ∧ Fr Z.heap.size L) := by
  refine g_body (bytes := code) (maxL := maxLocals) (ret := some .boolean) (plainFor_of_name pn_com_example_stets_stets_automaton_BranchSetsUndoToPinLaw) ?_
  intro p e s m below meth c T0 K X0 e0
  refine g_entry (ef_8 m p0 p1 p2 p3) ?_
  have N0 : Fr Z.heap.size [] := Fr.nil _
  have Ol0 : Old Z Z.heap.size h0 := Ol
  refine g_iloadN X0 K (q := 1) at_0 rfl rfl ?_
  refine g_bipush X0 K (q := 3) (v := (7 : Int32)) at_1 (by decide) rfl ?_
  obtain ⟨s0, e_s0⟩ : ∃ z, p0 &&& (7 : Int32) = z := ⟨_, rfl⟩
  have hs0 := own_7 p0
  rw [e_s0] at hs0
  refine g_iand X0 K (q := 4) (z := s0) at_3 e_s0 rfl ?_
  refine g_istore X0 K (q := 6) (L' := #[.val (.int p0), .val (.int p1), .val (.int p2), .val (.int p3), .val (.int s0), .unset, .unset, .unset, .unset, .unset, .unset, .unset, .unset, .unset, .unset, .unset, .unset, .unset, .unset, .unset, .unset, .unset, .unset, .unset, .unset, .unset, .unset, .unset]) at_4 rfl rfl ?_
  refine g_iloadN X0 K (q := 7) at_6 rfl rfl ?_
  refine g_iconst X0 K (q := 8) (v := (3 : Int32)) at_7 (by decide) rfl ?_
  refine g_iushr X0 K (q := 9) at_8 rfl rfl ?_
  refine g_bipush X0 K (q := 11) (v := (127 : Int32)) at_9 (by decide) rfl ?_
  obtain ⟨f0, e_f0⟩ : ∃ z, ((p0.toUInt32 >>> ((3 : Int32) &&& 31).toUInt32).toInt32) &&& (127 : Int32) = z := ⟨_, rfl⟩
  have hf0 := own_127 ((p0.toUInt32 >>> ((3 : Int32) &&& 31).toUInt32).toInt32)
  rw [e_f0] at hf0
  refine g_iand X0 K (q := 12) (z := f0) at_11 e_f0 rfl ?_
  refine g_istore X0 K (q := 14) (L' := #[.val (.int p0), .val (.int p1), .val (.int p2), .val (.int p3), .val (.int s0), .val (.int f0), .unset, .unset, .unset, .unset, .unset, .unset, .unset, .unset, .unset, .unset, .unset, .unset, .unset, .unset, .unset, .unset, .unset, .unset, .unset, .unset, .unset, .unset]) at_12 rfl rfl ?_
  refine g_iloadN X0 K (q := 15) at_14 rfl rfl ?_
  refine g_bipush X0 K (q := 17) (v := (7 : Int32)) at_15 (by decide) rfl ?_
  obtain ⟨s1, e_s1⟩ : ∃ z, p1 &&& (7 : Int32) = z := ⟨_, rfl⟩
  have hs1 := own_7 p1
  rw [e_s1] at hs1
  refine g_iand X0 K (q := 18) (z := s1) at_17 e_s1 rfl ?_
  refine g_istore X0 K (q := 20) (L' := #[.val (.int p0), .val (.int p1), .val (.int p2), .val (.int p3), .val (.int s0), .val (.int f0), .val (.int s1), .unset, .unset, .unset, .unset, .unset, .unset, .unset, .unset, .unset, .unset, .unset, .unset, .unset, .unset, .unset, .unset, .unset, .unset, .unset, .unset, .unset]) at_18 rfl rfl ?_
  refine g_iloadN X0 K (q := 21) at_20 rfl rfl ?_
  refine g_iconst X0 K (q := 22) (v := (3 : Int32)) at_21 (by decide) rfl ?_
  refine g_iushr X0 K (q := 23) at_22 rfl rfl ?_
  refine g_bipush X0 K (q := 25) (v := (127 : Int32)) at_23 (by decide) rfl ?_
  obtain ⟨f1, e_f1⟩ : ∃ z, ((p1.toUInt32 >>> ((3 : Int32) &&& 31).toUInt32).toInt32) &&& (127 : Int32) = z := ⟨_, rfl⟩
  have hf1 := own_127 ((p1.toUInt32 >>> ((3 : Int32) &&& 31).toUInt32).toInt32)
  rw [e_f1] at hf1
  refine g_iand X0 K (q := 26) (z := f1) at_25 e_f1 rfl ?_
  refine g_istore X0 K (q := 28) (L' := #[.val (.int p0), .val (.int p1), .val (.int p2), .val (.int p3), .val (.int s0), .val (.int f0), .val (.int s1), .val (.int f1), .unset, .unset, .unset, .unset, .unset, .unset, .unset, .unset, .unset, .unset, .unset, .unset, .unset, .unset, .unset, .unset, .unset, .unset, .unset, .unset]) at_26 rfl rfl ?_
  refine g_iloadN X0 K (q := 29) at_28 rfl rfl ?_
  refine g_bipush X0 K (q := 31) (v := (7 : Int32)) at_29 (by decide) rfl ?_
  obtain ⟨s2, e_s2⟩ : ∃ z, p2 &&& (7 : Int32) = z := ⟨_, rfl⟩
  have hs2 := own_7 p2
  rw [e_s2] at hs2
  refine g_iand X0 K (q := 32) (z := s2) at_31 e_s2 rfl ?_
  refine g_istore X0 K (q := 34) (L' := #[.val (.int p0), .val (.int p1), .val (.int p2), .val (.int p3), .val (.int s0), .val (.int f0), .val (.int s1), .val (.int f1), .val (.int s2), .unset, .unset, .unset, .unset, .unset, .unset, .unset, .unset, .unset, .unset, .unset, .unset, .unset, .unset, .unset, .unset, .unset, .unset, .unset]) at_32 rfl rfl ?_
  refine g_iloadN X0 K (q := 35) at_34 rfl rfl ?_
  refine g_iconst X0 K (q := 36) (v := (3 : Int32)) at_35 (by decide) rfl ?_
  refine g_iushr X0 K (q := 37) at_36 rfl rfl ?_
  refine g_bipush X0 K (q := 39) (v := (127 : Int32)) at_37 (by decide) rfl ?_
  obtain ⟨f2, e_f2⟩ : ∃ z, ((p2.toUInt32 >>> ((3 : Int32) &&& 31).toUInt32).toInt32) &&& (127 : Int32) = z := ⟨_, rfl⟩
  have hf2 := own_127 ((p2.toUInt32 >>> ((3 : Int32) &&& 31).toUInt32).toInt32)
  rw [e_f2] at hf2
  refine g_iand X0 K (q := 40) (z := f2) at_39 e_f2 rfl ?_
  refine g_istore X0 K (q := 42) (L' := #[.val (.int p0), .val (.int p1), .val (.int p2), .val (.int p3), .val (.int s0), .val (.int f0), .val (.int s1), .val (.int f1), .val (.int s2), .val (.int f2), .unset, .unset, .unset, .unset, .unset, .unset, .unset, .unset, .unset, .unset, .unset, .unset, .unset, .unset, .unset, .unset, .unset, .unset]) at_40 rfl rfl ?_
  refine g_iloadN X0 K (q := 43) at_42 rfl rfl ?_
  refine g_iconst X0 K (q := 44) (v := (3 : Int32)) at_43 (by decide) rfl ?_
  obtain ⟨kk, e_kk⟩ : ∃ z, p3 &&& (3 : Int32) = z := ⟨_, rfl⟩
  have hkk := own_mk4 p3
  rw [e_kk] at hkk
  refine g_iand X0 K (q := 45) (z := kk) at_44 e_kk rfl ?_
  refine g_istore X0 K (q := 47) (L' := #[.val (.int p0), .val (.int p1), .val (.int p2), .val (.int p3), .val (.int s0), .val (.int f0), .val (.int s1), .val (.int f1), .val (.int s2), .val (.int f2), .val (.int kk), .unset, .unset, .unset, .unset, .unset, .unset, .unset, .unset, .unset, .unset, .unset, .unset, .unset, .unset, .unset, .unset, .unset]) at_45 rfl rfl ?_
  refine g_new X0 K (q := 50) (w0 H) (w1 H) (w2 H) e0 at_47 (by decide) (by decide) rfl ?_
  intro T1 h1 b1 X1 e1 E1 z1 A1 D1
  have ge1 : Z.heap.size ≤ b1 := Nat.le_trans Ol0.2.1 (Nat.le_of_eq z1)
  have Ol1 := Ol0.ext E1
  have F1_flags : Fld Z h1 b1 "com/example/stets/stets/automaton/BranchSets" "flags" "[B" .null := D1 (Or.inl (w11 H)) (ty := (.array .byte)) (by decide)
  have F1_trail : Fld Z h1 b1 "com/example/stets/stets/automaton/BranchSets" "trail" "[B" .null := D1 (Or.inl (w13 H)) (ty := (.array .byte)) (by decide)
  have F1_members : Fld Z h1 b1 "com/example/stets/stets/automaton/BranchSets" "members" "[[I" .null := D1 (Or.inr (w18 H)) (ty := (.array (.array .int))) (by decide)
  have F1_sizes : Fld Z h1 b1 "com/example/stets/stets/automaton/BranchSets" "sizes" "[I" .null := D1 (Or.inr (w20 H)) (ty := (.array .int)) (by decide)
  have F1_trailSize : Fld Z h1 b1 "com/example/stets/stets/automaton/BranchSets" "trailSize" "I" (.int (0 : Int32)) := D1 (Or.inl (w32 H)) (ty := .int) (by decide)
  refine g_dup X1 K (q := 51) at_50 rfl rfl ?_
  refine g_bipush X1 K (q := 53) (v := (8 : Int32)) at_51 (by decide) rfl ?_
  refine g_special X1 K (q := 56) (W := 1) (a := b1) rfl (w3 H) (w4 H) (w2 H) (w5 H) (by decide) (rmI l H b1 (8 : Int32) h1 Ol1 A1 F1_flags F1_trail F1_members F1_sizes F1_trailSize ge1 (by decide) (by decide)) e1 rfl (argsL := [(.int (8 : Int32))]) (rest := [(.ref b1)]) (lenOf pd_3 rfl) rfl rfl (Nat.le_of_eq rfl) at_53 (by decide) (by decide) (by decide) (by decide) rfl ?_
  rintro T2 v2 L2 X2 ⟨rfl, N2q, hB2, Ol2⟩
  have N2 := Fr.app N0 N2q
  show Go p e below _ T2 (mkF m 56 #[.val (.int p0), .val (.int p1), .val (.int p2), .val (.int p3), .val (.int s0), .val (.int f0), .val (.int s1), .val (.int f1), .val (.int s2), .val (.int f2), .val (.int kk), .unset, .unset, .unset, .unset, .unset, .unset, .unset, .unset, .unset, .unset, .unset, .unset, .unset, .unset, .unset, .unset, .unset] [(.ref b1)])
  refine g_astore X2 K (q := 58) (L' := #[.val (.int p0), .val (.int p1), .val (.int p2), .val (.int p3), .val (.int s0), .val (.int f0), .val (.int s1), .val (.int f1), .val (.int s2), .val (.int f2), .val (.int kk), .val (.ref b1), .unset, .unset, .unset, .unset, .unset, .unset, .unset, .unset, .unset, .unset, .unset, .unset, .unset, .unset, .unset, .unset]) at_56 rfl rfl rfl ?_
  refine g_aload X2 K (q := 60) at_58 rfl rfl rfl ?_
  refine g_iload X2 K (q := 62) at_60 rfl rfl ?_
  refine g_iload X2 K (q := 64) at_62 rfl rfl ?_
  refine g_virtual X2 K (q := 67) (W := 0) (a := b1) (w21 H) (w22 H) (nf_self K (w24 H)) (w24 H) (w23 H) (w2 H) (w25 H) (by decide) (rmA l H b1 (8 : Int32) s0 f0 64 [] 128 T2.heap Ol2 hB2 hs0.1 hs0.2 hf0.1 (by decide) (by decide) (by decide) (fun x h1 h2 h3 => ⟨by omega, by omega⟩)) rfl (BI.exa hB2) rfl (argsL := [(.int s0), (.int f0)]) (rest := []) (lenOf pd_1 rfl) rfl rfl (Nat.le_of_eq rfl) at_64 (by decide) (by decide) (by decide) (by decide) rfl ?_
  rintro T3 v3 L3 X3 ⟨rfl, N3q, hB3, Ol3⟩
  have N3 := Fr.app N2 N3q
  show Go p e below _ T3 (mkF m 67 #[.val (.int p0), .val (.int p1), .val (.int p2), .val (.int p3), .val (.int s0), .val (.int f0), .val (.int s1), .val (.int f1), .val (.int s2), .val (.int f2), .val (.int kk), .val (.ref b1), .unset, .unset, .unset, .unset, .unset, .unset, .unset, .unset, .unset, .unset, .unset, .unset, .unset, .unset, .unset, .unset] [(.int (1 : Int32))])
  rw [if_neg (by simp)] at hB3
  refine g_istore X3 K (q := 69) (L' := #[.val (.int p0), .val (.int p1), .val (.int p2), .val (.int p3), .val (.int s0), .val (.int f0), .val (.int s1), .val (.int f1), .val (.int s2), .val (.int f2), .val (.int kk), .val (.ref b1), .val (.int (1 : Int32)), .unset, .unset, .unset, .unset, .unset, .unset, .unset, .unset, .unset, .unset, .unset, .unset, .unset, .unset, .unset]) at_67 rfl rfl ?_
  refine g_aload X3 K (q := 71) at_69 rfl rfl rfl ?_
  refine g_iload X3 K (q := 73) at_71 rfl rfl ?_
  refine g_iload X3 K (q := 75) at_73 rfl rfl ?_
  refine g_virtual X3 K (q := 78) (W := 0) (a := b1) (w21 H) (w22 H) (nf_self K (w24 H)) (w24 H) (w23 H) (w2 H) (w25 H) (by decide) (rmA l H b1 (8 : Int32) s1 f1 128 [(s0, f0)] 128 T3.heap Ol3 hB3 hs1.1 hs1.2 hf1.1 (by simp) (by decide) (by decide) (fun x h1 h2 h3 => ⟨by omega, by omega⟩)) rfl (BI.exa hB3) rfl (argsL := [(.int s1), (.int f1)]) (rest := []) (lenOf pd_1 rfl) rfl rfl (Nat.le_of_eq rfl) at_75 (by decide) (by decide) (by decide) (by decide) rfl ?_
  rintro T4 v4 L4 X4 ⟨rfl, N4q, hB4, Ol4⟩
  have N4 := Fr.app N3 N4q
  show Go p e below _ T4 (mkF m 78 #[.val (.int p0), .val (.int p1), .val (.int p2), .val (.int p3), .val (.int s0), .val (.int f0), .val (.int s1), .val (.int f1), .val (.int s2), .val (.int f2), .val (.int kk), .val (.ref b1), .val (.int (1 : Int32)), .unset, .unset, .unset, .unset, .unset, .unset, .unset, .unset, .unset, .unset, .unset, .unset, .unset, .unset, .unset] [(.int (if (s1, f1) ∈ ([(s0, f0)] : Stk) then 0 else 1))])
  obtain ⟨sk2, e_sk2⟩ : ∃ z, (if (s1, f1) ∈ ([(s0, f0)] : Stk) then [(s0, f0)] else (s1, f1) :: [(s0, f0)]) = z := ⟨_, rfl⟩
  rw [e_sk2] at hB4
  refine g_istore X4 K (q := 80) (L' := #[.val (.int p0), .val (.int p1), .val (.int p2), .val (.int p3), .val (.int s0), .val (.int f0), .val (.int s1), .val (.int f1), .val (.int s2), .val (.int f2), .val (.int kk), .val (.ref b1), .val (.int (1 : Int32)), .val (.int (if (s1, f1) ∈ ([(s0, f0)] : Stk) then 0 else 1)), .unset, .unset, .unset, .unset, .unset, .unset, .unset, .unset, .unset, .unset, .unset, .unset, .unset, .unset]) at_78 rfl rfl ?_
  refine g_aload X4 K (q := 82) at_80 rfl rfl rfl ?_
  refine g_iload X4 K (q := 84) at_82 rfl rfl ?_
  refine g_iload X4 K (q := 86) at_84 rfl rfl ?_
  refine g_virtual X4 K (q := 89) (W := 0) (a := b1) (w21 H) (w22 H) (nf_self K (w24 H)) (w24 H) (w23 H) (w2 H) (w25 H) (by decide) (rmA l H b1 (8 : Int32) s2 f2 128 sk2 128 T4.heap Ol4 hB4 hs2.1 hs2.2 hf2.1 (by rw [← e_sk2]; split <;> simp) (by decide) (by decide) (fun x h1 h2 h3 => ⟨by omega, by omega⟩)) rfl (BI.exa hB4) rfl (argsL := [(.int s2), (.int f2)]) (rest := []) (lenOf pd_1 rfl) rfl rfl (Nat.le_of_eq rfl) at_86 (by decide) (by decide) (by decide) (by decide) rfl ?_
  rintro T5 v5 L5 X5 ⟨rfl, N5q, hB5, Ol5⟩
  have N5 := Fr.app N4 N5q
  show Go p e below _ T5 (mkF m 89 #[.val (.int p0), .val (.int p1), .val (.int p2), .val (.int p3), .val (.int s0), .val (.int f0), .val (.int s1), .val (.int f1), .val (.int s2), .val (.int f2), .val (.int kk), .val (.ref b1), .val (.int (1 : Int32)), .val (.int (if (s1, f1) ∈ ([(s0, f0)] : Stk) then 0 else 1)), .unset, .unset, .unset, .unset, .unset, .unset, .unset, .unset, .unset, .unset, .unset, .unset, .unset, .unset] [(.int (if (s2, f2) ∈ sk2 then 0 else 1))])
  obtain ⟨sk3, e_sk3⟩ : ∃ z, (if (s2, f2) ∈ sk2 then sk2 else (s2, f2) :: sk2) = z := ⟨_, rfl⟩
  rw [e_sk3] at hB5
  refine g_istore X5 K (q := 91) (L' := #[.val (.int p0), .val (.int p1), .val (.int p2), .val (.int p3), .val (.int s0), .val (.int f0), .val (.int s1), .val (.int f1), .val (.int s2), .val (.int f2), .val (.int kk), .val (.ref b1), .val (.int (1 : Int32)), .val (.int (if (s1, f1) ∈ ([(s0, f0)] : Stk) then 0 else 1)), .val (.int (if (s2, f2) ∈ sk2 then 0 else 1)), .unset, .unset, .unset, .unset, .unset, .unset, .unset, .unset, .unset, .unset, .unset, .unset, .unset]) at_89 rfl rfl ?_
  refine g_iconst X5 K (q := 92) (v := (1 : Int32)) at_91 (by decide) rfl ?_
  refine g_istore X5 K (q := 94) (L' := #[.val (.int p0), .val (.int p1), .val (.int p2), .val (.int p3), .val (.int s0), .val (.int f0), .val (.int s1), .val (.int f1), .val (.int s2), .val (.int f2), .val (.int kk), .val (.ref b1), .val (.int (1 : Int32)), .val (.int (if (s1, f1) ∈ ([(s0, f0)] : Stk) then 0 else 1)), .val (.int (if (s2, f2) ∈ sk2 then 0 else 1)), .val (.int (1 : Int32)), .unset, .unset, .unset, .unset, .unset, .unset, .unset, .unset, .unset, .unset, .unset, .unset]) at_92 rfl rfl ?_
  have j_113 : ∀ (Tj113 : State) (Lj : List Loc) (z : Int32), Stand p l e room_1 s m #[(.int p0), (.int p1), (.int p2), (.int p3)] below meth c Tj113 Lj 16 661 → Fr Z.heap.size Lj → Tj113.heap = T5.heap → z = b2 (¬ (s0 = s1 ∧ f0 = f1)) → Go p e below (Done s below (fun v h L => v = some (.int 1) ∧ Fr Z.heap.size L) room_1.cells room_1.slots) Tj113 (mkF m 113 #[.val (.int p0), .val (.int p1), .val (.int p2), .val (.int p3), .val (.int s0), .val (.int f0), .val (.int s1), .val (.int f1), .val (.int s2), .val (.int f2), .val (.int kk), .val (.ref b1), .val (.int (1 : Int32)), .val (.int (if (s1, f1) ∈ ([(s0, f0)] : Stk) then 0 else 1)), .val (.int (if (s2, f2) ∈ sk2 then 0 else 1)), .val (.int (1 : Int32)), .unset, .unset, .unset, .unset, .unset, .unset, .unset, .unset, .unset, .unset, .unset, .unset] [(.int z)]) := by
    intro Tj113 Lj z Xj113 Nj113 ej113 hz
    subst hz
    refine g_istore Xj113 K (q := 115) (L' := #[.val (.int p0), .val (.int p1), .val (.int p2), .val (.int p3), .val (.int s0), .val (.int f0), .val (.int s1), .val (.int f1), .val (.int s2), .val (.int f2), .val (.int kk), .val (.ref b1), .val (.int (1 : Int32)), .val (.int (if (s1, f1) ∈ ([(s0, f0)] : Stk) then 0 else 1)), .val (.int (if (s2, f2) ∈ sk2 then 0 else 1)), .val (.int (1 : Int32)), .val (.int (b2 (¬ (s0 = s1 ∧ f0 = f1)))), .unset, .unset, .unset, .unset, .unset, .unset, .unset, .unset, .unset, .unset, .unset]) at_113 rfl rfl ?_
    have j_148 : ∀ (Tj148 : State) (Lj : List Loc) (z : Int32), Stand p l e room_1 s m #[(.int p0), (.int p1), (.int p2), (.int p3)] below meth c Tj148 Lj 16 661 → Fr Z.heap.size Lj → Tj148.heap = T5.heap → z = b2 (¬ (s0 = s2 ∧ f0 = f2) ∧ ¬ (s1 = s2 ∧ f1 = f2)) → Go p e below (Done s below (fun v h L => v = some (.int 1) ∧ Fr Z.heap.size L) room_1.cells room_1.slots) Tj148 (mkF m 148 #[.val (.int p0), .val (.int p1), .val (.int p2), .val (.int p3), .val (.int s0), .val (.int f0), .val (.int s1), .val (.int f1), .val (.int s2), .val (.int f2), .val (.int kk), .val (.ref b1), .val (.int (1 : Int32)), .val (.int (if (s1, f1) ∈ ([(s0, f0)] : Stk) then 0 else 1)), .val (.int (if (s2, f2) ∈ sk2 then 0 else 1)), .val (.int (1 : Int32)), .val (.int (b2 (¬ (s0 = s1 ∧ f0 = f1)))), .unset, .unset, .unset, .unset, .unset, .unset, .unset, .unset, .unset, .unset, .unset] [(.int z)]) := by
      intro Tj148 Lj z Xj148 Nj148 ej148 hz
      subst hz
      refine g_istore Xj148 K (q := 150) (L' := #[.val (.int p0), .val (.int p1), .val (.int p2), .val (.int p3), .val (.int s0), .val (.int f0), .val (.int s1), .val (.int f1), .val (.int s2), .val (.int f2), .val (.int kk), .val (.ref b1), .val (.int (1 : Int32)), .val (.int (if (s1, f1) ∈ ([(s0, f0)] : Stk) then 0 else 1)), .val (.int (if (s2, f2) ∈ sk2 then 0 else 1)), .val (.int (1 : Int32)), .val (.int (b2 (¬ (s0 = s1 ∧ f0 = f1)))), .val (.int (b2 (¬ (s0 = s2 ∧ f0 = f2) ∧ ¬ (s1 = s2 ∧ f1 = f2)))), .unset, .unset, .unset, .unset, .unset, .unset, .unset, .unset, .unset, .unset]) at_148 rfl rfl ?_
      refine g_iload Xj148 K (q := 152) at_150 rfl rfl ?_
      refine g_iload Xj148 K (q := 154) at_152 rfl rfl ?_
      refine g_icN Xj148 K (q := 157) at_154 (by decide) rfl ?_
      refine g_iload Xj148 K (q := 159) at_157 rfl rfl ?_
      refine g_iload Xj148 K (q := 161) at_159 rfl rfl ?_
      refine g_icN Xj148 K (q := 164) at_161 (teq r1_eq).2 rfl ?_
      refine g_iload Xj148 K (q := 166) at_164 rfl rfl ?_
      refine g_iload Xj148 K (q := 168) at_166 rfl rfl ?_
      refine g_icY Xj148 K (q := 173) at_168 (teq (r2_eq e_sk2)).1 (by decide) (by decide) ?_
      have j_188 : ∀ (Tj188 : State) (Lj : List Loc) (z : Int32), Stand p l e room_1 s m #[(.int p0), (.int p1), (.int p2), (.int p3)] below meth c Tj188 Lj 16 661 → Fr Z.heap.size Lj → Tj188.heap = T5.heap → z = b2 ((0 : Int32) < kk) → Go p e below (Done s below (fun v h L => v = some (.int 1) ∧ Fr Z.heap.size L) room_1.cells room_1.slots) Tj188 (mkF m 188 #[.val (.int p0), .val (.int p1), .val (.int p2), .val (.int p3), .val (.int s0), .val (.int f0), .val (.int s1), .val (.int f1), .val (.int s2), .val (.int f2), .val (.int kk), .val (.ref b1), .val (.int (1 : Int32)), .val (.int (if (s1, f1) ∈ ([(s0, f0)] : Stk) then 0 else 1)), .val (.int (if (s2, f2) ∈ sk2 then 0 else 1)), .val (.int (1 : Int32)), .val (.int (b2 (¬ (s0 = s1 ∧ f0 = f1)))), .val (.int (b2 (¬ (s0 = s2 ∧ f0 = f2) ∧ ¬ (s1 = s2 ∧ f1 = f2)))), .unset, .unset, .unset, .unset, .unset, .unset, .unset, .unset, .unset, .unset] [(.int z)]) := by
        intro Tj188 Lj z Xj188 Nj188 ej188 hz
        subst hz
        refine g_istore Xj188 K (q := 190) (L' := #[.val (.int p0), .val (.int p1), .val (.int p2), .val (.int p3), .val (.int s0), .val (.int f0), .val (.int s1), .val (.int f1), .val (.int s2), .val (.int f2), .val (.int kk), .val (.ref b1), .val (.int (1 : Int32)), .val (.int (if (s1, f1) ∈ ([(s0, f0)] : Stk) then 0 else 1)), .val (.int (if (s2, f2) ∈ sk2 then 0 else 1)), .val (.int (1 : Int32)), .val (.int (b2 (¬ (s0 = s1 ∧ f0 = f1)))), .val (.int (b2 (¬ (s0 = s2 ∧ f0 = f2) ∧ ¬ (s1 = s2 ∧ f1 = f2)))), .val (.int (b2 ((0 : Int32) < kk))), .unset, .unset, .unset, .unset, .unset, .unset, .unset, .unset, .unset]) at_188 rfl rfl ?_
        have j_206 : ∀ (Tj206 : State) (Lj : List Loc) (z : Int32), Stand p l e room_1 s m #[(.int p0), (.int p1), (.int p2), (.int p3)] below meth c Tj206 Lj 16 661 → Fr Z.heap.size Lj → Tj206.heap = T5.heap → z = b2 ((1 : Int32) < kk ∧ ¬ (s0 = s1 ∧ f0 = f1)) → Go p e below (Done s below (fun v h L => v = some (.int 1) ∧ Fr Z.heap.size L) room_1.cells room_1.slots) Tj206 (mkF m 206 #[.val (.int p0), .val (.int p1), .val (.int p2), .val (.int p3), .val (.int s0), .val (.int f0), .val (.int s1), .val (.int f1), .val (.int s2), .val (.int f2), .val (.int kk), .val (.ref b1), .val (.int (1 : Int32)), .val (.int (if (s1, f1) ∈ ([(s0, f0)] : Stk) then 0 else 1)), .val (.int (if (s2, f2) ∈ sk2 then 0 else 1)), .val (.int (1 : Int32)), .val (.int (b2 (¬ (s0 = s1 ∧ f0 = f1)))), .val (.int (b2 (¬ (s0 = s2 ∧ f0 = f2) ∧ ¬ (s1 = s2 ∧ f1 = f2)))), .val (.int (b2 ((0 : Int32) < kk))), .unset, .unset, .unset, .unset, .unset, .unset, .unset, .unset, .unset] [(.int z)]) := by
          intro Tj206 Lj z Xj206 Nj206 ej206 hz
          subst hz
          refine g_istore Xj206 K (q := 208) (L' := #[.val (.int p0), .val (.int p1), .val (.int p2), .val (.int p3), .val (.int s0), .val (.int f0), .val (.int s1), .val (.int f1), .val (.int s2), .val (.int f2), .val (.int kk), .val (.ref b1), .val (.int (1 : Int32)), .val (.int (if (s1, f1) ∈ ([(s0, f0)] : Stk) then 0 else 1)), .val (.int (if (s2, f2) ∈ sk2 then 0 else 1)), .val (.int (1 : Int32)), .val (.int (b2 (¬ (s0 = s1 ∧ f0 = f1)))), .val (.int (b2 (¬ (s0 = s2 ∧ f0 = f2) ∧ ¬ (s1 = s2 ∧ f1 = f2)))), .val (.int (b2 ((0 : Int32) < kk))), .val (.int (b2 ((1 : Int32) < kk ∧ ¬ (s0 = s1 ∧ f0 = f1)))), .unset, .unset, .unset, .unset, .unset, .unset, .unset, .unset]) at_206 rfl rfl ?_
          have j_224 : ∀ (Tj224 : State) (Lj : List Loc) (z : Int32), Stand p l e room_1 s m #[(.int p0), (.int p1), (.int p2), (.int p3)] below meth c Tj224 Lj 16 661 → Fr Z.heap.size Lj → Tj224.heap = T5.heap → z = b2 ((2 : Int32) < kk ∧ (¬ (s0 = s2 ∧ f0 = f2) ∧ ¬ (s1 = s2 ∧ f1 = f2))) → Go p e below (Done s below (fun v h L => v = some (.int 1) ∧ Fr Z.heap.size L) room_1.cells room_1.slots) Tj224 (mkF m 224 #[.val (.int p0), .val (.int p1), .val (.int p2), .val (.int p3), .val (.int s0), .val (.int f0), .val (.int s1), .val (.int f1), .val (.int s2), .val (.int f2), .val (.int kk), .val (.ref b1), .val (.int (1 : Int32)), .val (.int (if (s1, f1) ∈ ([(s0, f0)] : Stk) then 0 else 1)), .val (.int (if (s2, f2) ∈ sk2 then 0 else 1)), .val (.int (1 : Int32)), .val (.int (b2 (¬ (s0 = s1 ∧ f0 = f1)))), .val (.int (b2 (¬ (s0 = s2 ∧ f0 = f2) ∧ ¬ (s1 = s2 ∧ f1 = f2)))), .val (.int (b2 ((0 : Int32) < kk))), .val (.int (b2 ((1 : Int32) < kk ∧ ¬ (s0 = s1 ∧ f0 = f1)))), .unset, .unset, .unset, .unset, .unset, .unset, .unset, .unset] [(.int z)]) := by
            intro Tj224 Lj z Xj224 Nj224 ej224 hz
            subst hz
            refine g_istore Xj224 K (q := 226) (L' := #[.val (.int p0), .val (.int p1), .val (.int p2), .val (.int p3), .val (.int s0), .val (.int f0), .val (.int s1), .val (.int f1), .val (.int s2), .val (.int f2), .val (.int kk), .val (.ref b1), .val (.int (1 : Int32)), .val (.int (if (s1, f1) ∈ ([(s0, f0)] : Stk) then 0 else 1)), .val (.int (if (s2, f2) ∈ sk2 then 0 else 1)), .val (.int (1 : Int32)), .val (.int (b2 (¬ (s0 = s1 ∧ f0 = f1)))), .val (.int (b2 (¬ (s0 = s2 ∧ f0 = f2) ∧ ¬ (s1 = s2 ∧ f1 = f2)))), .val (.int (b2 ((0 : Int32) < kk))), .val (.int (b2 ((1 : Int32) < kk ∧ ¬ (s0 = s1 ∧ f0 = f1)))), .val (.int (b2 ((2 : Int32) < kk ∧ (¬ (s0 = s2 ∧ f0 = f2) ∧ ¬ (s1 = s2 ∧ f1 = f2))))), .unset, .unset, .unset, .unset, .unset, .unset, .unset]) at_224 rfl rfl ?_
            refine g_iload Xj224 K (q := 228) at_226 rfl rfl ?_
            refine g_static Xj224 K (q := 231) (W := 0) (w37 H) (w38 H) (w35 H) (w39 H) (by decide) (rm6_10 l H (b2 ((0 : Int32) < kk)) T5.heap Ol5 (b2_01 _)) ej224 rfl (argsL := [(.int (b2 ((0 : Int32) < kk)))]) (rest := []) (lenOf pd_4 rfl) rfl rfl (Nat.le_of_eq rfl) at_228 (by decide) (by decide) (by decide) (by decide) rfl ?_
            rintro T6 v6 L6 X6 ⟨rfl, N6q, e6⟩
            have N6 := Fr.app Nj224 N6q
            show Go p e below _ T6 (mkF m 231 #[.val (.int p0), .val (.int p1), .val (.int p2), .val (.int p3), .val (.int s0), .val (.int f0), .val (.int s1), .val (.int f1), .val (.int s2), .val (.int f2), .val (.int kk), .val (.ref b1), .val (.int (1 : Int32)), .val (.int (if (s1, f1) ∈ ([(s0, f0)] : Stk) then 0 else 1)), .val (.int (if (s2, f2) ∈ sk2 then 0 else 1)), .val (.int (1 : Int32)), .val (.int (b2 (¬ (s0 = s1 ∧ f0 = f1)))), .val (.int (b2 (¬ (s0 = s2 ∧ f0 = f2) ∧ ¬ (s1 = s2 ∧ f1 = f2)))), .val (.int (b2 ((0 : Int32) < kk))), .val (.int (b2 ((1 : Int32) < kk ∧ ¬ (s0 = s1 ∧ f0 = f1)))), .val (.int (b2 ((2 : Int32) < kk ∧ (¬ (s0 = s2 ∧ f0 = f2) ∧ ¬ (s1 = s2 ∧ f1 = f2))))), .unset, .unset, .unset, .unset, .unset, .unset, .unset] [(.int (b2 ((0 : Int32) < kk)))])
            refine g_iload X6 K (q := 233) at_231 rfl rfl ?_
            refine g_static X6 K (q := 236) (W := 1) (w37 H) (w38 H) (w35 H) (w39 H) (by decide) (rm6_10 l H (b2 ((1 : Int32) < kk ∧ ¬ (s0 = s1 ∧ f0 = f1))) T5.heap Ol5 (b2_01 _)) e6 rfl (argsL := [(.int (b2 ((1 : Int32) < kk ∧ ¬ (s0 = s1 ∧ f0 = f1))))]) (rest := [(.int (b2 ((0 : Int32) < kk)))]) (lenOf pd_4 rfl) rfl rfl (Nat.le_of_eq rfl) at_233 (by decide) (by decide) (by decide) (by decide) rfl ?_
            rintro T7 v7 L7 X7 ⟨rfl, N7q, e7⟩
            have N7 := Fr.app N6 N7q
            show Go p e below _ T7 (mkF m 236 #[.val (.int p0), .val (.int p1), .val (.int p2), .val (.int p3), .val (.int s0), .val (.int f0), .val (.int s1), .val (.int f1), .val (.int s2), .val (.int f2), .val (.int kk), .val (.ref b1), .val (.int (1 : Int32)), .val (.int (if (s1, f1) ∈ ([(s0, f0)] : Stk) then 0 else 1)), .val (.int (if (s2, f2) ∈ sk2 then 0 else 1)), .val (.int (1 : Int32)), .val (.int (b2 (¬ (s0 = s1 ∧ f0 = f1)))), .val (.int (b2 (¬ (s0 = s2 ∧ f0 = f2) ∧ ¬ (s1 = s2 ∧ f1 = f2)))), .val (.int (b2 ((0 : Int32) < kk))), .val (.int (b2 ((1 : Int32) < kk ∧ ¬ (s0 = s1 ∧ f0 = f1)))), .val (.int (b2 ((2 : Int32) < kk ∧ (¬ (s0 = s2 ∧ f0 = f2) ∧ ¬ (s1 = s2 ∧ f1 = f2))))), .unset, .unset, .unset, .unset, .unset, .unset, .unset] [(.int (b2 ((1 : Int32) < kk ∧ ¬ (s0 = s1 ∧ f0 = f1)))), (.int (b2 ((0 : Int32) < kk)))])
            refine g_iadd X7 K (q := 237) at_236 rfl rfl ?_
            refine g_iload X7 K (q := 239) at_237 rfl rfl ?_
            refine g_static X7 K (q := 242) (W := 1) (w37 H) (w38 H) (w35 H) (w39 H) (by decide) (rm6_10 l H (b2 ((2 : Int32) < kk ∧ (¬ (s0 = s2 ∧ f0 = f2) ∧ ¬ (s1 = s2 ∧ f1 = f2)))) T5.heap Ol5 (b2_01 _)) e7 rfl (argsL := [(.int (b2 ((2 : Int32) < kk ∧ (¬ (s0 = s2 ∧ f0 = f2) ∧ ¬ (s1 = s2 ∧ f1 = f2)))))]) (rest := [(.int ((b2 ((0 : Int32) < kk)) + (b2 ((1 : Int32) < kk ∧ ¬ (s0 = s1 ∧ f0 = f1)))))]) (lenOf pd_4 rfl) rfl rfl (Nat.le_of_eq rfl) at_239 (by decide) (by decide) (by decide) (by decide) rfl ?_
            rintro T8 v8 L8 X8 ⟨rfl, N8q, e8⟩
            have N8 := Fr.app N7 N8q
            show Go p e below _ T8 (mkF m 242 #[.val (.int p0), .val (.int p1), .val (.int p2), .val (.int p3), .val (.int s0), .val (.int f0), .val (.int s1), .val (.int f1), .val (.int s2), .val (.int f2), .val (.int kk), .val (.ref b1), .val (.int (1 : Int32)), .val (.int (if (s1, f1) ∈ ([(s0, f0)] : Stk) then 0 else 1)), .val (.int (if (s2, f2) ∈ sk2 then 0 else 1)), .val (.int (1 : Int32)), .val (.int (b2 (¬ (s0 = s1 ∧ f0 = f1)))), .val (.int (b2 (¬ (s0 = s2 ∧ f0 = f2) ∧ ¬ (s1 = s2 ∧ f1 = f2)))), .val (.int (b2 ((0 : Int32) < kk))), .val (.int (b2 ((1 : Int32) < kk ∧ ¬ (s0 = s1 ∧ f0 = f1)))), .val (.int (b2 ((2 : Int32) < kk ∧ (¬ (s0 = s2 ∧ f0 = f2) ∧ ¬ (s1 = s2 ∧ f1 = f2))))), .unset, .unset, .unset, .unset, .unset, .unset, .unset] [(.int (b2 ((2 : Int32) < kk ∧ (¬ (s0 = s2 ∧ f0 = f2) ∧ ¬ (s1 = s2 ∧ f1 = f2))))), (.int ((b2 ((0 : Int32) < kk)) + (b2 ((1 : Int32) < kk ∧ ¬ (s0 = s1 ∧ f0 = f1)))))])
            obtain ⟨mm, e_mm⟩ : ∃ z, ((b2 ((0 : Int32) < kk)) + (b2 ((1 : Int32) < kk ∧ ¬ (s0 = s1 ∧ f0 = f1)))) + (b2 ((2 : Int32) < kk ∧ (¬ (s0 = s2 ∧ f0 = f2) ∧ ¬ (s1 = s2 ∧ f1 = f2)))) = z := ⟨_, rfl⟩
            refine g_iadd X8 K (q := 243) (z := mm) at_242 e_mm rfl ?_
            refine g_istore X8 K (q := 245) (L' := #[.val (.int p0), .val (.int p1), .val (.int p2), .val (.int p3), .val (.int s0), .val (.int f0), .val (.int s1), .val (.int f1), .val (.int s2), .val (.int f2), .val (.int kk), .val (.ref b1), .val (.int (1 : Int32)), .val (.int (if (s1, f1) ∈ ([(s0, f0)] : Stk) then 0 else 1)), .val (.int (if (s2, f2) ∈ sk2 then 0 else 1)), .val (.int (1 : Int32)), .val (.int (b2 (¬ (s0 = s1 ∧ f0 = f1)))), .val (.int (b2 (¬ (s0 = s2 ∧ f0 = f2) ∧ ¬ (s1 = s2 ∧ f1 = f2)))), .val (.int (b2 ((0 : Int32) < kk))), .val (.int (b2 ((1 : Int32) < kk ∧ ¬ (s0 = s1 ∧ f0 = f1)))), .val (.int (b2 ((2 : Int32) < kk ∧ (¬ (s0 = s2 ∧ f0 = f2) ∧ ¬ (s1 = s2 ∧ f1 = f2))))), .val (.int mm), .unset, .unset, .unset, .unset, .unset, .unset]) at_243 rfl rfl ?_
            refine g_aload X8 K (q := 247) at_245 rfl rfl rfl ?_
            refine g_iload X8 K (q := 249) at_247 rfl rfl ?_
            obtain ⟨sk4, e_sk4⟩ : ∃ z, sk3.drop (sk3.length - mm.toInt.toNat) = z := ⟨_, rfl⟩
            obtain ⟨hl2, hl3, hm0, hlen4, hP0, hP1, hP2, hZ0, hZ1, hZ2⟩ := pureB (n1 := ¬ (s0 = s1 ∧ f0 = f1)) (n2 := ¬ (s0 = s2 ∧ f0 = f2) ∧ ¬ (s1 = s2 ∧ f1 = f2)) (k0 := (0 : Int32) < kk) (k1 := (1 : Int32) < kk ∧ ¬ (s0 = s1 ∧ f0 = f1)) (k2 := (2 : Int32) < kk ∧ (¬ (s0 = s2 ∧ f0 = f2) ∧ ¬ (s1 = s2 ∧ f1 = f2))) hkk e_sk2 e_sk3 Iff.rfl Iff.rfl Iff.rfl Iff.rfl Iff.rfl e_mm e_sk4
            refine g_virtual X8 K (q := 252) (W := 0) (a := b1) (w40 H) (w41 H) (nf_self K (w43 H)) (w43 H) (w42 H) (w2 H) (w44 H) (by decide) (rmU l H b1 (8 : Int32) mm 128 sk3 T5.heap Ol5 hB5 hm0 (by omega)) e8 (BI.exa hB5) rfl (argsL := [(.int mm)]) (rest := []) (lenOf pd_3 rfl) rfl rfl (Nat.le_of_eq rfl) at_249 (by decide) (by decide) (by decide) (by decide) rfl ?_
            rintro T9 v9 L9 X9 ⟨rfl, N9q, hB9, Ol9⟩
            have N9 := Fr.app N8 N9q
            show Go p e below _ T9 (mkF m 252 #[.val (.int p0), .val (.int p1), .val (.int p2), .val (.int p3), .val (.int s0), .val (.int f0), .val (.int s1), .val (.int f1), .val (.int s2), .val (.int f2), .val (.int kk), .val (.ref b1), .val (.int (1 : Int32)), .val (.int (if (s1, f1) ∈ ([(s0, f0)] : Stk) then 0 else 1)), .val (.int (if (s2, f2) ∈ sk2 then 0 else 1)), .val (.int (1 : Int32)), .val (.int (b2 (¬ (s0 = s1 ∧ f0 = f1)))), .val (.int (b2 (¬ (s0 = s2 ∧ f0 = f2) ∧ ¬ (s1 = s2 ∧ f1 = f2)))), .val (.int (b2 ((0 : Int32) < kk))), .val (.int (b2 ((1 : Int32) < kk ∧ ¬ (s0 = s1 ∧ f0 = f1)))), .val (.int (b2 ((2 : Int32) < kk ∧ (¬ (s0 = s2 ∧ f0 = f2) ∧ ¬ (s1 = s2 ∧ f1 = f2))))), .val (.int mm), .unset, .unset, .unset, .unset, .unset, .unset] [])
            rw [e_sk4] at hB9
            refine g_aload X9 K (q := 254) at_252 rfl rfl rfl ?_
            refine g_virtual X9 K (q := 257) (W := 0) (a := b1) (w45 H) (w46 H) (nf_self K (w48 H)) (w48 H) (w47 H) (w2 H) (w49 H) (by decide) (rmM l H b1 (8 : Int32) 128 sk4 T9.heap Ol9 hB9 ) rfl (BI.exa hB9) rfl (argsL := []) (rest := []) (lenOf pd_5 rfl) rfl rfl (Nat.le_of_eq rfl) at_254 (by decide) (by decide) (by decide) (by decide) rfl ?_
            rintro T10 v10 L10 X10 ⟨rfl, N10q, e10⟩
            have N10 := Fr.app N9 N10q
            show Go p e below _ T10 (mkF m 257 #[.val (.int p0), .val (.int p1), .val (.int p2), .val (.int p3), .val (.int s0), .val (.int f0), .val (.int s1), .val (.int f1), .val (.int s2), .val (.int f2), .val (.int kk), .val (.ref b1), .val (.int (1 : Int32)), .val (.int (if (s1, f1) ∈ ([(s0, f0)] : Stk) then 0 else 1)), .val (.int (if (s2, f2) ∈ sk2 then 0 else 1)), .val (.int (1 : Int32)), .val (.int (b2 (¬ (s0 = s1 ∧ f0 = f1)))), .val (.int (b2 (¬ (s0 = s2 ∧ f0 = f2) ∧ ¬ (s1 = s2 ∧ f1 = f2)))), .val (.int (b2 ((0 : Int32) < kk))), .val (.int (b2 ((1 : Int32) < kk ∧ ¬ (s0 = s1 ∧ f0 = f1)))), .val (.int (b2 ((2 : Int32) < kk ∧ (¬ (s0 = s2 ∧ f0 = f2) ∧ ¬ (s1 = s2 ∧ f1 = f2))))), .val (.int mm), .unset, .unset, .unset, .unset, .unset, .unset] [(.int (Int32.ofNat sk4.length))])
            refine g_iload X10 K (q := 259) at_257 rfl rfl ?_
            refine g_icY X10 K (q := 264) at_259 (teq hlen4).1 (by decide) (by decide) ?_
            have j_312 : ∀ (Tj312 : State) (Lj : List Loc) (z : Int32), Stand p l e room_1 s m #[(.int p0), (.int p1), (.int p2), (.int p3)] below meth c Tj312 Lj 16 661 → Fr Z.heap.size Lj → Tj312.heap = T9.heap → z = b2 (((0 : Int32) < kk) ∨ (((1 : Int32) < kk ∧ ¬ (s0 = s1 ∧ f0 = f1)) ∧ s1 = s0 ∧ f1 = f0) ∨ (((2 : Int32) < kk ∧ (¬ (s0 = s2 ∧ f0 = f2) ∧ ¬ (s1 = s2 ∧ f1 = f2))) ∧ s2 = s0 ∧ f2 = f0)) → Go p e below (Done s below (fun v h L => v = some (.int 1) ∧ Fr Z.heap.size L) room_1.cells room_1.slots) Tj312 (mkF m 312 #[.val (.int p0), .val (.int p1), .val (.int p2), .val (.int p3), .val (.int s0), .val (.int f0), .val (.int s1), .val (.int f1), .val (.int s2), .val (.int f2), .val (.int kk), .val (.ref b1), .val (.int (1 : Int32)), .val (.int (if (s1, f1) ∈ ([(s0, f0)] : Stk) then 0 else 1)), .val (.int (if (s2, f2) ∈ sk2 then 0 else 1)), .val (.int (1 : Int32)), .val (.int (b2 (¬ (s0 = s1 ∧ f0 = f1)))), .val (.int (b2 (¬ (s0 = s2 ∧ f0 = f2) ∧ ¬ (s1 = s2 ∧ f1 = f2)))), .val (.int (b2 ((0 : Int32) < kk))), .val (.int (b2 ((1 : Int32) < kk ∧ ¬ (s0 = s1 ∧ f0 = f1)))), .val (.int (b2 ((2 : Int32) < kk ∧ (¬ (s0 = s2 ∧ f0 = f2) ∧ ¬ (s1 = s2 ∧ f1 = f2))))), .val (.int mm), .unset, .unset, .unset, .unset, .unset, .unset] [(.int z)]) := by
              intro Tj312 Lj z Xj312 Nj312 ej312 hz
              subst hz
              refine g_istore Xj312 K (q := 314) (L' := #[.val (.int p0), .val (.int p1), .val (.int p2), .val (.int p3), .val (.int s0), .val (.int f0), .val (.int s1), .val (.int f1), .val (.int s2), .val (.int f2), .val (.int kk), .val (.ref b1), .val (.int (1 : Int32)), .val (.int (if (s1, f1) ∈ ([(s0, f0)] : Stk) then 0 else 1)), .val (.int (if (s2, f2) ∈ sk2 then 0 else 1)), .val (.int (1 : Int32)), .val (.int (b2 (¬ (s0 = s1 ∧ f0 = f1)))), .val (.int (b2 (¬ (s0 = s2 ∧ f0 = f2) ∧ ¬ (s1 = s2 ∧ f1 = f2)))), .val (.int (b2 ((0 : Int32) < kk))), .val (.int (b2 ((1 : Int32) < kk ∧ ¬ (s0 = s1 ∧ f0 = f1)))), .val (.int (b2 ((2 : Int32) < kk ∧ (¬ (s0 = s2 ∧ f0 = f2) ∧ ¬ (s1 = s2 ∧ f1 = f2))))), .val (.int mm), .val (.int (b2 (((0 : Int32) < kk) ∨ (((1 : Int32) < kk ∧ ¬ (s0 = s1 ∧ f0 = f1)) ∧ s1 = s0 ∧ f1 = f0) ∨ (((2 : Int32) < kk ∧ (¬ (s0 = s2 ∧ f0 = f2) ∧ ¬ (s1 = s2 ∧ f1 = f2))) ∧ s2 = s0 ∧ f2 = f0)))), .unset, .unset, .unset, .unset, .unset]) at_312 rfl rfl ?_
              have j_362 : ∀ (Tj362 : State) (Lj : List Loc) (z : Int32), Stand p l e room_1 s m #[(.int p0), (.int p1), (.int p2), (.int p3)] below meth c Tj362 Lj 16 661 → Fr Z.heap.size Lj → Tj362.heap = T9.heap → z = b2 ((((0 : Int32) < kk) ∧ s0 = s1 ∧ f0 = f1) ∨ ((1 : Int32) < kk ∧ ¬ (s0 = s1 ∧ f0 = f1)) ∨ (((2 : Int32) < kk ∧ (¬ (s0 = s2 ∧ f0 = f2) ∧ ¬ (s1 = s2 ∧ f1 = f2))) ∧ s2 = s1 ∧ f2 = f1)) → Go p e below (Done s below (fun v h L => v = some (.int 1) ∧ Fr Z.heap.size L) room_1.cells room_1.slots) Tj362 (mkF m 362 #[.val (.int p0), .val (.int p1), .val (.int p2), .val (.int p3), .val (.int s0), .val (.int f0), .val (.int s1), .val (.int f1), .val (.int s2), .val (.int f2), .val (.int kk), .val (.ref b1), .val (.int (1 : Int32)), .val (.int (if (s1, f1) ∈ ([(s0, f0)] : Stk) then 0 else 1)), .val (.int (if (s2, f2) ∈ sk2 then 0 else 1)), .val (.int (1 : Int32)), .val (.int (b2 (¬ (s0 = s1 ∧ f0 = f1)))), .val (.int (b2 (¬ (s0 = s2 ∧ f0 = f2) ∧ ¬ (s1 = s2 ∧ f1 = f2)))), .val (.int (b2 ((0 : Int32) < kk))), .val (.int (b2 ((1 : Int32) < kk ∧ ¬ (s0 = s1 ∧ f0 = f1)))), .val (.int (b2 ((2 : Int32) < kk ∧ (¬ (s0 = s2 ∧ f0 = f2) ∧ ¬ (s1 = s2 ∧ f1 = f2))))), .val (.int mm), .val (.int (b2 (((0 : Int32) < kk) ∨ (((1 : Int32) < kk ∧ ¬ (s0 = s1 ∧ f0 = f1)) ∧ s1 = s0 ∧ f1 = f0) ∨ (((2 : Int32) < kk ∧ (¬ (s0 = s2 ∧ f0 = f2) ∧ ¬ (s1 = s2 ∧ f1 = f2))) ∧ s2 = s0 ∧ f2 = f0)))), .unset, .unset, .unset, .unset, .unset] [(.int z)]) := by
                intro Tj362 Lj z Xj362 Nj362 ej362 hz
                subst hz
                refine g_istore Xj362 K (q := 364) (L' := #[.val (.int p0), .val (.int p1), .val (.int p2), .val (.int p3), .val (.int s0), .val (.int f0), .val (.int s1), .val (.int f1), .val (.int s2), .val (.int f2), .val (.int kk), .val (.ref b1), .val (.int (1 : Int32)), .val (.int (if (s1, f1) ∈ ([(s0, f0)] : Stk) then 0 else 1)), .val (.int (if (s2, f2) ∈ sk2 then 0 else 1)), .val (.int (1 : Int32)), .val (.int (b2 (¬ (s0 = s1 ∧ f0 = f1)))), .val (.int (b2 (¬ (s0 = s2 ∧ f0 = f2) ∧ ¬ (s1 = s2 ∧ f1 = f2)))), .val (.int (b2 ((0 : Int32) < kk))), .val (.int (b2 ((1 : Int32) < kk ∧ ¬ (s0 = s1 ∧ f0 = f1)))), .val (.int (b2 ((2 : Int32) < kk ∧ (¬ (s0 = s2 ∧ f0 = f2) ∧ ¬ (s1 = s2 ∧ f1 = f2))))), .val (.int mm), .val (.int (b2 (((0 : Int32) < kk) ∨ (((1 : Int32) < kk ∧ ¬ (s0 = s1 ∧ f0 = f1)) ∧ s1 = s0 ∧ f1 = f0) ∨ (((2 : Int32) < kk ∧ (¬ (s0 = s2 ∧ f0 = f2) ∧ ¬ (s1 = s2 ∧ f1 = f2))) ∧ s2 = s0 ∧ f2 = f0)))), .val (.int (b2 ((((0 : Int32) < kk) ∧ s0 = s1 ∧ f0 = f1) ∨ ((1 : Int32) < kk ∧ ¬ (s0 = s1 ∧ f0 = f1)) ∨ (((2 : Int32) < kk ∧ (¬ (s0 = s2 ∧ f0 = f2) ∧ ¬ (s1 = s2 ∧ f1 = f2))) ∧ s2 = s1 ∧ f2 = f1)))), .unset, .unset, .unset, .unset]) at_362 rfl rfl ?_
                have j_412 : ∀ (Tj412 : State) (Lj : List Loc) (z : Int32), Stand p l e room_1 s m #[(.int p0), (.int p1), (.int p2), (.int p3)] below meth c Tj412 Lj 16 661 → Fr Z.heap.size Lj → Tj412.heap = T9.heap → z = b2 ((((0 : Int32) < kk) ∧ s0 = s2 ∧ f0 = f2) ∨ (((1 : Int32) < kk ∧ ¬ (s0 = s1 ∧ f0 = f1)) ∧ s1 = s2 ∧ f1 = f2) ∨ ((2 : Int32) < kk ∧ (¬ (s0 = s2 ∧ f0 = f2) ∧ ¬ (s1 = s2 ∧ f1 = f2)))) → Go p e below (Done s below (fun v h L => v = some (.int 1) ∧ Fr Z.heap.size L) room_1.cells room_1.slots) Tj412 (mkF m 412 #[.val (.int p0), .val (.int p1), .val (.int p2), .val (.int p3), .val (.int s0), .val (.int f0), .val (.int s1), .val (.int f1), .val (.int s2), .val (.int f2), .val (.int kk), .val (.ref b1), .val (.int (1 : Int32)), .val (.int (if (s1, f1) ∈ ([(s0, f0)] : Stk) then 0 else 1)), .val (.int (if (s2, f2) ∈ sk2 then 0 else 1)), .val (.int (1 : Int32)), .val (.int (b2 (¬ (s0 = s1 ∧ f0 = f1)))), .val (.int (b2 (¬ (s0 = s2 ∧ f0 = f2) ∧ ¬ (s1 = s2 ∧ f1 = f2)))), .val (.int (b2 ((0 : Int32) < kk))), .val (.int (b2 ((1 : Int32) < kk ∧ ¬ (s0 = s1 ∧ f0 = f1)))), .val (.int (b2 ((2 : Int32) < kk ∧ (¬ (s0 = s2 ∧ f0 = f2) ∧ ¬ (s1 = s2 ∧ f1 = f2))))), .val (.int mm), .val (.int (b2 (((0 : Int32) < kk) ∨ (((1 : Int32) < kk ∧ ¬ (s0 = s1 ∧ f0 = f1)) ∧ s1 = s0 ∧ f1 = f0) ∨ (((2 : Int32) < kk ∧ (¬ (s0 = s2 ∧ f0 = f2) ∧ ¬ (s1 = s2 ∧ f1 = f2))) ∧ s2 = s0 ∧ f2 = f0)))), .val (.int (b2 ((((0 : Int32) < kk) ∧ s0 = s1 ∧ f0 = f1) ∨ ((1 : Int32) < kk ∧ ¬ (s0 = s1 ∧ f0 = f1)) ∨ (((2 : Int32) < kk ∧ (¬ (s0 = s2 ∧ f0 = f2) ∧ ¬ (s1 = s2 ∧ f1 = f2))) ∧ s2 = s1 ∧ f2 = f1)))), .unset, .unset, .unset, .unset] [(.int z)]) := by
                  intro Tj412 Lj z Xj412 Nj412 ej412 hz
                  subst hz
                  refine g_istore Xj412 K (q := 414) (L' := #[.val (.int p0), .val (.int p1), .val (.int p2), .val (.int p3), .val (.int s0), .val (.int f0), .val (.int s1), .val (.int f1), .val (.int s2), .val (.int f2), .val (.int kk), .val (.ref b1), .val (.int (1 : Int32)), .val (.int (if (s1, f1) ∈ ([(s0, f0)] : Stk) then 0 else 1)), .val (.int (if (s2, f2) ∈ sk2 then 0 else 1)), .val (.int (1 : Int32)), .val (.int (b2 (¬ (s0 = s1 ∧ f0 = f1)))), .val (.int (b2 (¬ (s0 = s2 ∧ f0 = f2) ∧ ¬ (s1 = s2 ∧ f1 = f2)))), .val (.int (b2 ((0 : Int32) < kk))), .val (.int (b2 ((1 : Int32) < kk ∧ ¬ (s0 = s1 ∧ f0 = f1)))), .val (.int (b2 ((2 : Int32) < kk ∧ (¬ (s0 = s2 ∧ f0 = f2) ∧ ¬ (s1 = s2 ∧ f1 = f2))))), .val (.int mm), .val (.int (b2 (((0 : Int32) < kk) ∨ (((1 : Int32) < kk ∧ ¬ (s0 = s1 ∧ f0 = f1)) ∧ s1 = s0 ∧ f1 = f0) ∨ (((2 : Int32) < kk ∧ (¬ (s0 = s2 ∧ f0 = f2) ∧ ¬ (s1 = s2 ∧ f1 = f2))) ∧ s2 = s0 ∧ f2 = f0)))), .val (.int (b2 ((((0 : Int32) < kk) ∧ s0 = s1 ∧ f0 = f1) ∨ ((1 : Int32) < kk ∧ ¬ (s0 = s1 ∧ f0 = f1)) ∨ (((2 : Int32) < kk ∧ (¬ (s0 = s2 ∧ f0 = f2) ∧ ¬ (s1 = s2 ∧ f1 = f2))) ∧ s2 = s1 ∧ f2 = f1)))), .val (.int (b2 ((((0 : Int32) < kk) ∧ s0 = s2 ∧ f0 = f2) ∨ (((1 : Int32) < kk ∧ ¬ (s0 = s1 ∧ f0 = f1)) ∧ s1 = s2 ∧ f1 = f2) ∨ ((2 : Int32) < kk ∧ (¬ (s0 = s2 ∧ f0 = f2) ∧ ¬ (s1 = s2 ∧ f1 = f2)))))), .unset, .unset, .unset]) at_412 rfl rfl ?_
                  refine g_iload Xj412 K (q := 416) at_414 rfl rfl ?_
                  refine g_static Xj412 K (q := 419) (W := 0) (w37 H) (w38 H) (w35 H) (w39 H) (by decide) (rm6_10 l H (b2 ((0 : Int32) < kk)) T9.heap Ol9 (b2_01 _)) ej412 rfl (argsL := [(.int (b2 ((0 : Int32) < kk)))]) (rest := []) (lenOf pd_4 rfl) rfl rfl (Nat.le_of_eq rfl) at_416 (by decide) (by decide) (by decide) (by decide) rfl ?_
                  rintro T11 v11 L11 X11 ⟨rfl, N11q, e11⟩
                  have N11 := Fr.app Nj412 N11q
                  show Go p e below _ T11 (mkF m 419 #[.val (.int p0), .val (.int p1), .val (.int p2), .val (.int p3), .val (.int s0), .val (.int f0), .val (.int s1), .val (.int f1), .val (.int s2), .val (.int f2), .val (.int kk), .val (.ref b1), .val (.int (1 : Int32)), .val (.int (if (s1, f1) ∈ ([(s0, f0)] : Stk) then 0 else 1)), .val (.int (if (s2, f2) ∈ sk2 then 0 else 1)), .val (.int (1 : Int32)), .val (.int (b2 (¬ (s0 = s1 ∧ f0 = f1)))), .val (.int (b2 (¬ (s0 = s2 ∧ f0 = f2) ∧ ¬ (s1 = s2 ∧ f1 = f2)))), .val (.int (b2 ((0 : Int32) < kk))), .val (.int (b2 ((1 : Int32) < kk ∧ ¬ (s0 = s1 ∧ f0 = f1)))), .val (.int (b2 ((2 : Int32) < kk ∧ (¬ (s0 = s2 ∧ f0 = f2) ∧ ¬ (s1 = s2 ∧ f1 = f2))))), .val (.int mm), .val (.int (b2 (((0 : Int32) < kk) ∨ (((1 : Int32) < kk ∧ ¬ (s0 = s1 ∧ f0 = f1)) ∧ s1 = s0 ∧ f1 = f0) ∨ (((2 : Int32) < kk ∧ (¬ (s0 = s2 ∧ f0 = f2) ∧ ¬ (s1 = s2 ∧ f1 = f2))) ∧ s2 = s0 ∧ f2 = f0)))), .val (.int (b2 ((((0 : Int32) < kk) ∧ s0 = s1 ∧ f0 = f1) ∨ ((1 : Int32) < kk ∧ ¬ (s0 = s1 ∧ f0 = f1)) ∨ (((2 : Int32) < kk ∧ (¬ (s0 = s2 ∧ f0 = f2) ∧ ¬ (s1 = s2 ∧ f1 = f2))) ∧ s2 = s1 ∧ f2 = f1)))), .val (.int (b2 ((((0 : Int32) < kk) ∧ s0 = s2 ∧ f0 = f2) ∨ (((1 : Int32) < kk ∧ ¬ (s0 = s1 ∧ f0 = f1)) ∧ s1 = s2 ∧ f1 = f2) ∨ ((2 : Int32) < kk ∧ (¬ (s0 = s2 ∧ f0 = f2) ∧ ¬ (s1 = s2 ∧ f1 = f2)))))), .unset, .unset, .unset] [(.int (b2 ((0 : Int32) < kk)))])
                  have j_436 : ∀ (Tj436 : State) (Lj : List Loc) (z : Int32), Stand p l e room_1 s m #[(.int p0), (.int p1), (.int p2), (.int p3)] below meth c Tj436 Lj 16 661 → Fr Z.heap.size Lj → Tj436.heap = T9.heap → z = b2 (((1 : Int32) < kk ∧ ¬ (s0 = s1 ∧ f0 = f1)) ∧ s1 = s0) → Go p e below (Done s below (fun v h L => v = some (.int 1) ∧ Fr Z.heap.size L) room_1.cells room_1.slots) Tj436 (mkF m 436 #[.val (.int p0), .val (.int p1), .val (.int p2), .val (.int p3), .val (.int s0), .val (.int f0), .val (.int s1), .val (.int f1), .val (.int s2), .val (.int f2), .val (.int kk), .val (.ref b1), .val (.int (1 : Int32)), .val (.int (if (s1, f1) ∈ ([(s0, f0)] : Stk) then 0 else 1)), .val (.int (if (s2, f2) ∈ sk2 then 0 else 1)), .val (.int (1 : Int32)), .val (.int (b2 (¬ (s0 = s1 ∧ f0 = f1)))), .val (.int (b2 (¬ (s0 = s2 ∧ f0 = f2) ∧ ¬ (s1 = s2 ∧ f1 = f2)))), .val (.int (b2 ((0 : Int32) < kk))), .val (.int (b2 ((1 : Int32) < kk ∧ ¬ (s0 = s1 ∧ f0 = f1)))), .val (.int (b2 ((2 : Int32) < kk ∧ (¬ (s0 = s2 ∧ f0 = f2) ∧ ¬ (s1 = s2 ∧ f1 = f2))))), .val (.int mm), .val (.int (b2 (((0 : Int32) < kk) ∨ (((1 : Int32) < kk ∧ ¬ (s0 = s1 ∧ f0 = f1)) ∧ s1 = s0 ∧ f1 = f0) ∨ (((2 : Int32) < kk ∧ (¬ (s0 = s2 ∧ f0 = f2) ∧ ¬ (s1 = s2 ∧ f1 = f2))) ∧ s2 = s0 ∧ f2 = f0)))), .val (.int (b2 ((((0 : Int32) < kk) ∧ s0 = s1 ∧ f0 = f1) ∨ ((1 : Int32) < kk ∧ ¬ (s0 = s1 ∧ f0 = f1)) ∨ (((2 : Int32) < kk ∧ (¬ (s0 = s2 ∧ f0 = f2) ∧ ¬ (s1 = s2 ∧ f1 = f2))) ∧ s2 = s1 ∧ f2 = f1)))), .val (.int (b2 ((((0 : Int32) < kk) ∧ s0 = s2 ∧ f0 = f2) ∨ (((1 : Int32) < kk ∧ ¬ (s0 = s1 ∧ f0 = f1)) ∧ s1 = s2 ∧ f1 = f2) ∨ ((2 : Int32) < kk ∧ (¬ (s0 = s2 ∧ f0 = f2) ∧ ¬ (s1 = s2 ∧ f1 = f2)))))), .unset, .unset, .unset] [(.int z), (.int (b2 ((0 : Int32) < kk)))]) := by
                    intro Tj436 Lj z Xj436 Nj436 ej436 hz
                    subst hz
                    refine g_static Xj436 K (q := 439) (W := 1) (w37 H) (w38 H) (w35 H) (w39 H) (by decide) (rm6_10 l H (b2 (((1 : Int32) < kk ∧ ¬ (s0 = s1 ∧ f0 = f1)) ∧ s1 = s0)) T9.heap Ol9 (b2_01 _)) ej436 rfl (argsL := [(.int (b2 (((1 : Int32) < kk ∧ ¬ (s0 = s1 ∧ f0 = f1)) ∧ s1 = s0)))]) (rest := [(.int (b2 ((0 : Int32) < kk)))]) (lenOf pd_4 rfl) rfl rfl (Nat.le_of_eq rfl) at_436 (by decide) (by decide) (by decide) (by decide) rfl ?_
                    rintro T12 v12 L12 X12 ⟨rfl, N12q, e12⟩
                    have N12 := Fr.app Nj436 N12q
                    show Go p e below _ T12 (mkF m 439 #[.val (.int p0), .val (.int p1), .val (.int p2), .val (.int p3), .val (.int s0), .val (.int f0), .val (.int s1), .val (.int f1), .val (.int s2), .val (.int f2), .val (.int kk), .val (.ref b1), .val (.int (1 : Int32)), .val (.int (if (s1, f1) ∈ ([(s0, f0)] : Stk) then 0 else 1)), .val (.int (if (s2, f2) ∈ sk2 then 0 else 1)), .val (.int (1 : Int32)), .val (.int (b2 (¬ (s0 = s1 ∧ f0 = f1)))), .val (.int (b2 (¬ (s0 = s2 ∧ f0 = f2) ∧ ¬ (s1 = s2 ∧ f1 = f2)))), .val (.int (b2 ((0 : Int32) < kk))), .val (.int (b2 ((1 : Int32) < kk ∧ ¬ (s0 = s1 ∧ f0 = f1)))), .val (.int (b2 ((2 : Int32) < kk ∧ (¬ (s0 = s2 ∧ f0 = f2) ∧ ¬ (s1 = s2 ∧ f1 = f2))))), .val (.int mm), .val (.int (b2 (((0 : Int32) < kk) ∨ (((1 : Int32) < kk ∧ ¬ (s0 = s1 ∧ f0 = f1)) ∧ s1 = s0 ∧ f1 = f0) ∨ (((2 : Int32) < kk ∧ (¬ (s0 = s2 ∧ f0 = f2) ∧ ¬ (s1 = s2 ∧ f1 = f2))) ∧ s2 = s0 ∧ f2 = f0)))), .val (.int (b2 ((((0 : Int32) < kk) ∧ s0 = s1 ∧ f0 = f1) ∨ ((1 : Int32) < kk ∧ ¬ (s0 = s1 ∧ f0 = f1)) ∨ (((2 : Int32) < kk ∧ (¬ (s0 = s2 ∧ f0 = f2) ∧ ¬ (s1 = s2 ∧ f1 = f2))) ∧ s2 = s1 ∧ f2 = f1)))), .val (.int (b2 ((((0 : Int32) < kk) ∧ s0 = s2 ∧ f0 = f2) ∨ (((1 : Int32) < kk ∧ ¬ (s0 = s1 ∧ f0 = f1)) ∧ s1 = s2 ∧ f1 = f2) ∨ ((2 : Int32) < kk ∧ (¬ (s0 = s2 ∧ f0 = f2) ∧ ¬ (s1 = s2 ∧ f1 = f2)))))), .unset, .unset, .unset] [(.int (b2 (((1 : Int32) < kk ∧ ¬ (s0 = s1 ∧ f0 = f1)) ∧ s1 = s0))), (.int (b2 ((0 : Int32) < kk)))])
                    refine g_iadd X12 K (q := 440) at_439 rfl rfl ?_
                    have j_457 : ∀ (Tj457 : State) (Lj : List Loc) (z : Int32), Stand p l e room_1 s m #[(.int p0), (.int p1), (.int p2), (.int p3)] below meth c Tj457 Lj 16 661 → Fr Z.heap.size Lj → Tj457.heap = T9.heap → z = b2 (((2 : Int32) < kk ∧ (¬ (s0 = s2 ∧ f0 = f2) ∧ ¬ (s1 = s2 ∧ f1 = f2))) ∧ s2 = s0) → Go p e below (Done s below (fun v h L => v = some (.int 1) ∧ Fr Z.heap.size L) room_1.cells room_1.slots) Tj457 (mkF m 457 #[.val (.int p0), .val (.int p1), .val (.int p2), .val (.int p3), .val (.int s0), .val (.int f0), .val (.int s1), .val (.int f1), .val (.int s2), .val (.int f2), .val (.int kk), .val (.ref b1), .val (.int (1 : Int32)), .val (.int (if (s1, f1) ∈ ([(s0, f0)] : Stk) then 0 else 1)), .val (.int (if (s2, f2) ∈ sk2 then 0 else 1)), .val (.int (1 : Int32)), .val (.int (b2 (¬ (s0 = s1 ∧ f0 = f1)))), .val (.int (b2 (¬ (s0 = s2 ∧ f0 = f2) ∧ ¬ (s1 = s2 ∧ f1 = f2)))), .val (.int (b2 ((0 : Int32) < kk))), .val (.int (b2 ((1 : Int32) < kk ∧ ¬ (s0 = s1 ∧ f0 = f1)))), .val (.int (b2 ((2 : Int32) < kk ∧ (¬ (s0 = s2 ∧ f0 = f2) ∧ ¬ (s1 = s2 ∧ f1 = f2))))), .val (.int mm), .val (.int (b2 (((0 : Int32) < kk) ∨ (((1 : Int32) < kk ∧ ¬ (s0 = s1 ∧ f0 = f1)) ∧ s1 = s0 ∧ f1 = f0) ∨ (((2 : Int32) < kk ∧ (¬ (s0 = s2 ∧ f0 = f2) ∧ ¬ (s1 = s2 ∧ f1 = f2))) ∧ s2 = s0 ∧ f2 = f0)))), .val (.int (b2 ((((0 : Int32) < kk) ∧ s0 = s1 ∧ f0 = f1) ∨ ((1 : Int32) < kk ∧ ¬ (s0 = s1 ∧ f0 = f1)) ∨ (((2 : Int32) < kk ∧ (¬ (s0 = s2 ∧ f0 = f2) ∧ ¬ (s1 = s2 ∧ f1 = f2))) ∧ s2 = s1 ∧ f2 = f1)))), .val (.int (b2 ((((0 : Int32) < kk) ∧ s0 = s2 ∧ f0 = f2) ∨ (((1 : Int32) < kk ∧ ¬ (s0 = s1 ∧ f0 = f1)) ∧ s1 = s2 ∧ f1 = f2) ∨ ((2 : Int32) < kk ∧ (¬ (s0 = s2 ∧ f0 = f2) ∧ ¬ (s1 = s2 ∧ f1 = f2)))))), .unset, .unset, .unset] [(.int z), (.int ((b2 ((0 : Int32) < kk)) + (b2 (((1 : Int32) < kk ∧ ¬ (s0 = s1 ∧ f0 = f1)) ∧ s1 = s0))))]) := by
                      intro Tj457 Lj z Xj457 Nj457 ej457 hz
                      subst hz
                      refine g_static Xj457 K (q := 460) (W := 1) (w37 H) (w38 H) (w35 H) (w39 H) (by decide) (rm6_10 l H (b2 (((2 : Int32) < kk ∧ (¬ (s0 = s2 ∧ f0 = f2) ∧ ¬ (s1 = s2 ∧ f1 = f2))) ∧ s2 = s0)) T9.heap Ol9 (b2_01 _)) ej457 rfl (argsL := [(.int (b2 (((2 : Int32) < kk ∧ (¬ (s0 = s2 ∧ f0 = f2) ∧ ¬ (s1 = s2 ∧ f1 = f2))) ∧ s2 = s0)))]) (rest := [(.int ((b2 ((0 : Int32) < kk)) + (b2 (((1 : Int32) < kk ∧ ¬ (s0 = s1 ∧ f0 = f1)) ∧ s1 = s0))))]) (lenOf pd_4 rfl) rfl rfl (Nat.le_of_eq rfl) at_457 (by decide) (by decide) (by decide) (by decide) rfl ?_
                      rintro T13 v13 L13 X13 ⟨rfl, N13q, e13⟩
                      have N13 := Fr.app Nj457 N13q
                      show Go p e below _ T13 (mkF m 460 #[.val (.int p0), .val (.int p1), .val (.int p2), .val (.int p3), .val (.int s0), .val (.int f0), .val (.int s1), .val (.int f1), .val (.int s2), .val (.int f2), .val (.int kk), .val (.ref b1), .val (.int (1 : Int32)), .val (.int (if (s1, f1) ∈ ([(s0, f0)] : Stk) then 0 else 1)), .val (.int (if (s2, f2) ∈ sk2 then 0 else 1)), .val (.int (1 : Int32)), .val (.int (b2 (¬ (s0 = s1 ∧ f0 = f1)))), .val (.int (b2 (¬ (s0 = s2 ∧ f0 = f2) ∧ ¬ (s1 = s2 ∧ f1 = f2)))), .val (.int (b2 ((0 : Int32) < kk))), .val (.int (b2 ((1 : Int32) < kk ∧ ¬ (s0 = s1 ∧ f0 = f1)))), .val (.int (b2 ((2 : Int32) < kk ∧ (¬ (s0 = s2 ∧ f0 = f2) ∧ ¬ (s1 = s2 ∧ f1 = f2))))), .val (.int mm), .val (.int (b2 (((0 : Int32) < kk) ∨ (((1 : Int32) < kk ∧ ¬ (s0 = s1 ∧ f0 = f1)) ∧ s1 = s0 ∧ f1 = f0) ∨ (((2 : Int32) < kk ∧ (¬ (s0 = s2 ∧ f0 = f2) ∧ ¬ (s1 = s2 ∧ f1 = f2))) ∧ s2 = s0 ∧ f2 = f0)))), .val (.int (b2 ((((0 : Int32) < kk) ∧ s0 = s1 ∧ f0 = f1) ∨ ((1 : Int32) < kk ∧ ¬ (s0 = s1 ∧ f0 = f1)) ∨ (((2 : Int32) < kk ∧ (¬ (s0 = s2 ∧ f0 = f2) ∧ ¬ (s1 = s2 ∧ f1 = f2))) ∧ s2 = s1 ∧ f2 = f1)))), .val (.int (b2 ((((0 : Int32) < kk) ∧ s0 = s2 ∧ f0 = f2) ∨ (((1 : Int32) < kk ∧ ¬ (s0 = s1 ∧ f0 = f1)) ∧ s1 = s2 ∧ f1 = f2) ∨ ((2 : Int32) < kk ∧ (¬ (s0 = s2 ∧ f0 = f2) ∧ ¬ (s1 = s2 ∧ f1 = f2)))))), .unset, .unset, .unset] [(.int (b2 (((2 : Int32) < kk ∧ (¬ (s0 = s2 ∧ f0 = f2) ∧ ¬ (s1 = s2 ∧ f1 = f2))) ∧ s2 = s0))), (.int ((b2 ((0 : Int32) < kk)) + (b2 (((1 : Int32) < kk ∧ ¬ (s0 = s1 ∧ f0 = f1)) ∧ s1 = s0))))])
                      refine g_iadd X13 K (q := 461) at_460 rfl rfl ?_
                      refine g_istore X13 K (q := 463) (L' := #[.val (.int p0), .val (.int p1), .val (.int p2), .val (.int p3), .val (.int s0), .val (.int f0), .val (.int s1), .val (.int f1), .val (.int s2), .val (.int f2), .val (.int kk), .val (.ref b1), .val (.int (1 : Int32)), .val (.int (if (s1, f1) ∈ ([(s0, f0)] : Stk) then 0 else 1)), .val (.int (if (s2, f2) ∈ sk2 then 0 else 1)), .val (.int (1 : Int32)), .val (.int (b2 (¬ (s0 = s1 ∧ f0 = f1)))), .val (.int (b2 (¬ (s0 = s2 ∧ f0 = f2) ∧ ¬ (s1 = s2 ∧ f1 = f2)))), .val (.int (b2 ((0 : Int32) < kk))), .val (.int (b2 ((1 : Int32) < kk ∧ ¬ (s0 = s1 ∧ f0 = f1)))), .val (.int (b2 ((2 : Int32) < kk ∧ (¬ (s0 = s2 ∧ f0 = f2) ∧ ¬ (s1 = s2 ∧ f1 = f2))))), .val (.int mm), .val (.int (b2 (((0 : Int32) < kk) ∨ (((1 : Int32) < kk ∧ ¬ (s0 = s1 ∧ f0 = f1)) ∧ s1 = s0 ∧ f1 = f0) ∨ (((2 : Int32) < kk ∧ (¬ (s0 = s2 ∧ f0 = f2) ∧ ¬ (s1 = s2 ∧ f1 = f2))) ∧ s2 = s0 ∧ f2 = f0)))), .val (.int (b2 ((((0 : Int32) < kk) ∧ s0 = s1 ∧ f0 = f1) ∨ ((1 : Int32) < kk ∧ ¬ (s0 = s1 ∧ f0 = f1)) ∨ (((2 : Int32) < kk ∧ (¬ (s0 = s2 ∧ f0 = f2) ∧ ¬ (s1 = s2 ∧ f1 = f2))) ∧ s2 = s1 ∧ f2 = f1)))), .val (.int (b2 ((((0 : Int32) < kk) ∧ s0 = s2 ∧ f0 = f2) ∨ (((1 : Int32) < kk ∧ ¬ (s0 = s1 ∧ f0 = f1)) ∧ s1 = s2 ∧ f1 = f2) ∨ ((2 : Int32) < kk ∧ (¬ (s0 = s2 ∧ f0 = f2) ∧ ¬ (s1 = s2 ∧ f1 = f2)))))), .val (.int (((b2 ((0 : Int32) < kk)) + (b2 (((1 : Int32) < kk ∧ ¬ (s0 = s1 ∧ f0 = f1)) ∧ s1 = s0))) + (b2 (((2 : Int32) < kk ∧ (¬ (s0 = s2 ∧ f0 = f2) ∧ ¬ (s1 = s2 ∧ f1 = f2))) ∧ s2 = s0)))), .unset, .unset]) at_461 rfl rfl ?_
                      have j_480 : ∀ (Tj480 : State) (Lj : List Loc) (z : Int32), Stand p l e room_1 s m #[(.int p0), (.int p1), (.int p2), (.int p3)] below meth c Tj480 Lj 16 661 → Fr Z.heap.size Lj → Tj480.heap = T9.heap → z = b2 (((0 : Int32) < kk) ∧ s0 = s1) → Go p e below (Done s below (fun v h L => v = some (.int 1) ∧ Fr Z.heap.size L) room_1.cells room_1.slots) Tj480 (mkF m 480 #[.val (.int p0), .val (.int p1), .val (.int p2), .val (.int p3), .val (.int s0), .val (.int f0), .val (.int s1), .val (.int f1), .val (.int s2), .val (.int f2), .val (.int kk), .val (.ref b1), .val (.int (1 : Int32)), .val (.int (if (s1, f1) ∈ ([(s0, f0)] : Stk) then 0 else 1)), .val (.int (if (s2, f2) ∈ sk2 then 0 else 1)), .val (.int (1 : Int32)), .val (.int (b2 (¬ (s0 = s1 ∧ f0 = f1)))), .val (.int (b2 (¬ (s0 = s2 ∧ f0 = f2) ∧ ¬ (s1 = s2 ∧ f1 = f2)))), .val (.int (b2 ((0 : Int32) < kk))), .val (.int (b2 ((1 : Int32) < kk ∧ ¬ (s0 = s1 ∧ f0 = f1)))), .val (.int (b2 ((2 : Int32) < kk ∧ (¬ (s0 = s2 ∧ f0 = f2) ∧ ¬ (s1 = s2 ∧ f1 = f2))))), .val (.int mm), .val (.int (b2 (((0 : Int32) < kk) ∨ (((1 : Int32) < kk ∧ ¬ (s0 = s1 ∧ f0 = f1)) ∧ s1 = s0 ∧ f1 = f0) ∨ (((2 : Int32) < kk ∧ (¬ (s0 = s2 ∧ f0 = f2) ∧ ¬ (s1 = s2 ∧ f1 = f2))) ∧ s2 = s0 ∧ f2 = f0)))), .val (.int (b2 ((((0 : Int32) < kk) ∧ s0 = s1 ∧ f0 = f1) ∨ ((1 : Int32) < kk ∧ ¬ (s0 = s1 ∧ f0 = f1)) ∨ (((2 : Int32) < kk ∧ (¬ (s0 = s2 ∧ f0 = f2) ∧ ¬ (s1 = s2 ∧ f1 = f2))) ∧ s2 = s1 ∧ f2 = f1)))), .val (.int (b2 ((((0 : Int32) < kk) ∧ s0 = s2 ∧ f0 = f2) ∨ (((1 : Int32) < kk ∧ ¬ (s0 = s1 ∧ f0 = f1)) ∧ s1 = s2 ∧ f1 = f2) ∨ ((2 : Int32) < kk ∧ (¬ (s0 = s2 ∧ f0 = f2) ∧ ¬ (s1 = s2 ∧ f1 = f2)))))), .val (.int (((b2 ((0 : Int32) < kk)) + (b2 (((1 : Int32) < kk ∧ ¬ (s0 = s1 ∧ f0 = f1)) ∧ s1 = s0))) + (b2 (((2 : Int32) < kk ∧ (¬ (s0 = s2 ∧ f0 = f2) ∧ ¬ (s1 = s2 ∧ f1 = f2))) ∧ s2 = s0)))), .unset, .unset] [(.int z)]) := by
                        intro Tj480 Lj z Xj480 Nj480 ej480 hz
                        subst hz
                        refine g_static Xj480 K (q := 483) (W := 0) (w37 H) (w38 H) (w35 H) (w39 H) (by decide) (rm6_10 l H (b2 (((0 : Int32) < kk) ∧ s0 = s1)) T9.heap Ol9 (b2_01 _)) ej480 rfl (argsL := [(.int (b2 (((0 : Int32) < kk) ∧ s0 = s1)))]) (rest := []) (lenOf pd_4 rfl) rfl rfl (Nat.le_of_eq rfl) at_480 (by decide) (by decide) (by decide) (by decide) rfl ?_
                        rintro T14 v14 L14 X14 ⟨rfl, N14q, e14⟩
                        have N14 := Fr.app Nj480 N14q
                        show Go p e below _ T14 (mkF m 483 #[.val (.int p0), .val (.int p1), .val (.int p2), .val (.int p3), .val (.int s0), .val (.int f0), .val (.int s1), .val (.int f1), .val (.int s2), .val (.int f2), .val (.int kk), .val (.ref b1), .val (.int (1 : Int32)), .val (.int (if (s1, f1) ∈ ([(s0, f0)] : Stk) then 0 else 1)), .val (.int (if (s2, f2) ∈ sk2 then 0 else 1)), .val (.int (1 : Int32)), .val (.int (b2 (¬ (s0 = s1 ∧ f0 = f1)))), .val (.int (b2 (¬ (s0 = s2 ∧ f0 = f2) ∧ ¬ (s1 = s2 ∧ f1 = f2)))), .val (.int (b2 ((0 : Int32) < kk))), .val (.int (b2 ((1 : Int32) < kk ∧ ¬ (s0 = s1 ∧ f0 = f1)))), .val (.int (b2 ((2 : Int32) < kk ∧ (¬ (s0 = s2 ∧ f0 = f2) ∧ ¬ (s1 = s2 ∧ f1 = f2))))), .val (.int mm), .val (.int (b2 (((0 : Int32) < kk) ∨ (((1 : Int32) < kk ∧ ¬ (s0 = s1 ∧ f0 = f1)) ∧ s1 = s0 ∧ f1 = f0) ∨ (((2 : Int32) < kk ∧ (¬ (s0 = s2 ∧ f0 = f2) ∧ ¬ (s1 = s2 ∧ f1 = f2))) ∧ s2 = s0 ∧ f2 = f0)))), .val (.int (b2 ((((0 : Int32) < kk) ∧ s0 = s1 ∧ f0 = f1) ∨ ((1 : Int32) < kk ∧ ¬ (s0 = s1 ∧ f0 = f1)) ∨ (((2 : Int32) < kk ∧ (¬ (s0 = s2 ∧ f0 = f2) ∧ ¬ (s1 = s2 ∧ f1 = f2))) ∧ s2 = s1 ∧ f2 = f1)))), .val (.int (b2 ((((0 : Int32) < kk) ∧ s0 = s2 ∧ f0 = f2) ∨ (((1 : Int32) < kk ∧ ¬ (s0 = s1 ∧ f0 = f1)) ∧ s1 = s2 ∧ f1 = f2) ∨ ((2 : Int32) < kk ∧ (¬ (s0 = s2 ∧ f0 = f2) ∧ ¬ (s1 = s2 ∧ f1 = f2)))))), .val (.int (((b2 ((0 : Int32) < kk)) + (b2 (((1 : Int32) < kk ∧ ¬ (s0 = s1 ∧ f0 = f1)) ∧ s1 = s0))) + (b2 (((2 : Int32) < kk ∧ (¬ (s0 = s2 ∧ f0 = f2) ∧ ¬ (s1 = s2 ∧ f1 = f2))) ∧ s2 = s0)))), .unset, .unset] [(.int (b2 (((0 : Int32) < kk) ∧ s0 = s1)))])
                        refine g_iload X14 K (q := 485) at_483 rfl rfl ?_
                        refine g_static X14 K (q := 488) (W := 1) (w37 H) (w38 H) (w35 H) (w39 H) (by decide) (rm6_10 l H (b2 ((1 : Int32) < kk ∧ ¬ (s0 = s1 ∧ f0 = f1))) T9.heap Ol9 (b2_01 _)) e14 rfl (argsL := [(.int (b2 ((1 : Int32) < kk ∧ ¬ (s0 = s1 ∧ f0 = f1))))]) (rest := [(.int (b2 (((0 : Int32) < kk) ∧ s0 = s1)))]) (lenOf pd_4 rfl) rfl rfl (Nat.le_of_eq rfl) at_485 (by decide) (by decide) (by decide) (by decide) rfl ?_
                        rintro T15 v15 L15 X15 ⟨rfl, N15q, e15⟩
                        have N15 := Fr.app N14 N15q
                        show Go p e below _ T15 (mkF m 488 #[.val (.int p0), .val (.int p1), .val (.int p2), .val (.int p3), .val (.int s0), .val (.int f0), .val (.int s1), .val (.int f1), .val (.int s2), .val (.int f2), .val (.int kk), .val (.ref b1), .val (.int (1 : Int32)), .val (.int (if (s1, f1) ∈ ([(s0, f0)] : Stk) then 0 else 1)), .val (.int (if (s2, f2) ∈ sk2 then 0 else 1)), .val (.int (1 : Int32)), .val (.int (b2 (¬ (s0 = s1 ∧ f0 = f1)))), .val (.int (b2 (¬ (s0 = s2 ∧ f0 = f2) ∧ ¬ (s1 = s2 ∧ f1 = f2)))), .val (.int (b2 ((0 : Int32) < kk))), .val (.int (b2 ((1 : Int32) < kk ∧ ¬ (s0 = s1 ∧ f0 = f1)))), .val (.int (b2 ((2 : Int32) < kk ∧ (¬ (s0 = s2 ∧ f0 = f2) ∧ ¬ (s1 = s2 ∧ f1 = f2))))), .val (.int mm), .val (.int (b2 (((0 : Int32) < kk) ∨ (((1 : Int32) < kk ∧ ¬ (s0 = s1 ∧ f0 = f1)) ∧ s1 = s0 ∧ f1 = f0) ∨ (((2 : Int32) < kk ∧ (¬ (s0 = s2 ∧ f0 = f2) ∧ ¬ (s1 = s2 ∧ f1 = f2))) ∧ s2 = s0 ∧ f2 = f0)))), .val (.int (b2 ((((0 : Int32) < kk) ∧ s0 = s1 ∧ f0 = f1) ∨ ((1 : Int32) < kk ∧ ¬ (s0 = s1 ∧ f0 = f1)) ∨ (((2 : Int32) < kk ∧ (¬ (s0 = s2 ∧ f0 = f2) ∧ ¬ (s1 = s2 ∧ f1 = f2))) ∧ s2 = s1 ∧ f2 = f1)))), .val (.int (b2 ((((0 : Int32) < kk) ∧ s0 = s2 ∧ f0 = f2) ∨ (((1 : Int32) < kk ∧ ¬ (s0 = s1 ∧ f0 = f1)) ∧ s1 = s2 ∧ f1 = f2) ∨ ((2 : Int32) < kk ∧ (¬ (s0 = s2 ∧ f0 = f2) ∧ ¬ (s1 = s2 ∧ f1 = f2)))))), .val (.int (((b2 ((0 : Int32) < kk)) + (b2 (((1 : Int32) < kk ∧ ¬ (s0 = s1 ∧ f0 = f1)) ∧ s1 = s0))) + (b2 (((2 : Int32) < kk ∧ (¬ (s0 = s2 ∧ f0 = f2) ∧ ¬ (s1 = s2 ∧ f1 = f2))) ∧ s2 = s0)))), .unset, .unset] [(.int (b2 ((1 : Int32) < kk ∧ ¬ (s0 = s1 ∧ f0 = f1)))), (.int (b2 (((0 : Int32) < kk) ∧ s0 = s1)))])
                        refine g_iadd X15 K (q := 489) at_488 rfl rfl ?_
                        have j_506 : ∀ (Tj506 : State) (Lj : List Loc) (z : Int32), Stand p l e room_1 s m #[(.int p0), (.int p1), (.int p2), (.int p3)] below meth c Tj506 Lj 16 661 → Fr Z.heap.size Lj → Tj506.heap = T9.heap → z = b2 (((2 : Int32) < kk ∧ (¬ (s0 = s2 ∧ f0 = f2) ∧ ¬ (s1 = s2 ∧ f1 = f2))) ∧ s2 = s1) → Go p e below (Done s below (fun v h L => v = some (.int 1) ∧ Fr Z.heap.size L) room_1.cells room_1.slots) Tj506 (mkF m 506 #[.val (.int p0), .val (.int p1), .val (.int p2), .val (.int p3), .val (.int s0), .val (.int f0), .val (.int s1), .val (.int f1), .val (.int s2), .val (.int f2), .val (.int kk), .val (.ref b1), .val (.int (1 : Int32)), .val (.int (if (s1, f1) ∈ ([(s0, f0)] : Stk) then 0 else 1)), .val (.int (if (s2, f2) ∈ sk2 then 0 else 1)), .val (.int (1 : Int32)), .val (.int (b2 (¬ (s0 = s1 ∧ f0 = f1)))), .val (.int (b2 (¬ (s0 = s2 ∧ f0 = f2) ∧ ¬ (s1 = s2 ∧ f1 = f2)))), .val (.int (b2 ((0 : Int32) < kk))), .val (.int (b2 ((1 : Int32) < kk ∧ ¬ (s0 = s1 ∧ f0 = f1)))), .val (.int (b2 ((2 : Int32) < kk ∧ (¬ (s0 = s2 ∧ f0 = f2) ∧ ¬ (s1 = s2 ∧ f1 = f2))))), .val (.int mm), .val (.int (b2 (((0 : Int32) < kk) ∨ (((1 : Int32) < kk ∧ ¬ (s0 = s1 ∧ f0 = f1)) ∧ s1 = s0 ∧ f1 = f0) ∨ (((2 : Int32) < kk ∧ (¬ (s0 = s2 ∧ f0 = f2) ∧ ¬ (s1 = s2 ∧ f1 = f2))) ∧ s2 = s0 ∧ f2 = f0)))), .val (.int (b2 ((((0 : Int32) < kk) ∧ s0 = s1 ∧ f0 = f1) ∨ ((1 : Int32) < kk ∧ ¬ (s0 = s1 ∧ f0 = f1)) ∨ (((2 : Int32) < kk ∧ (¬ (s0 = s2 ∧ f0 = f2) ∧ ¬ (s1 = s2 ∧ f1 = f2))) ∧ s2 = s1 ∧ f2 = f1)))), .val (.int (b2 ((((0 : Int32) < kk) ∧ s0 = s2 ∧ f0 = f2) ∨ (((1 : Int32) < kk ∧ ¬ (s0 = s1 ∧ f0 = f1)) ∧ s1 = s2 ∧ f1 = f2) ∨ ((2 : Int32) < kk ∧ (¬ (s0 = s2 ∧ f0 = f2) ∧ ¬ (s1 = s2 ∧ f1 = f2)))))), .val (.int (((b2 ((0 : Int32) < kk)) + (b2 (((1 : Int32) < kk ∧ ¬ (s0 = s1 ∧ f0 = f1)) ∧ s1 = s0))) + (b2 (((2 : Int32) < kk ∧ (¬ (s0 = s2 ∧ f0 = f2) ∧ ¬ (s1 = s2 ∧ f1 = f2))) ∧ s2 = s0)))), .unset, .unset] [(.int z), (.int ((b2 (((0 : Int32) < kk) ∧ s0 = s1)) + (b2 ((1 : Int32) < kk ∧ ¬ (s0 = s1 ∧ f0 = f1)))))]) := by
                          intro Tj506 Lj z Xj506 Nj506 ej506 hz
                          subst hz
                          refine g_static Xj506 K (q := 509) (W := 1) (w37 H) (w38 H) (w35 H) (w39 H) (by decide) (rm6_10 l H (b2 (((2 : Int32) < kk ∧ (¬ (s0 = s2 ∧ f0 = f2) ∧ ¬ (s1 = s2 ∧ f1 = f2))) ∧ s2 = s1)) T9.heap Ol9 (b2_01 _)) ej506 rfl (argsL := [(.int (b2 (((2 : Int32) < kk ∧ (¬ (s0 = s2 ∧ f0 = f2) ∧ ¬ (s1 = s2 ∧ f1 = f2))) ∧ s2 = s1)))]) (rest := [(.int ((b2 (((0 : Int32) < kk) ∧ s0 = s1)) + (b2 ((1 : Int32) < kk ∧ ¬ (s0 = s1 ∧ f0 = f1)))))]) (lenOf pd_4 rfl) rfl rfl (Nat.le_of_eq rfl) at_506 (by decide) (by decide) (by decide) (by decide) rfl ?_
                          rintro T16 v16 L16 X16 ⟨rfl, N16q, e16⟩
                          have N16 := Fr.app Nj506 N16q
                          show Go p e below _ T16 (mkF m 509 #[.val (.int p0), .val (.int p1), .val (.int p2), .val (.int p3), .val (.int s0), .val (.int f0), .val (.int s1), .val (.int f1), .val (.int s2), .val (.int f2), .val (.int kk), .val (.ref b1), .val (.int (1 : Int32)), .val (.int (if (s1, f1) ∈ ([(s0, f0)] : Stk) then 0 else 1)), .val (.int (if (s2, f2) ∈ sk2 then 0 else 1)), .val (.int (1 : Int32)), .val (.int (b2 (¬ (s0 = s1 ∧ f0 = f1)))), .val (.int (b2 (¬ (s0 = s2 ∧ f0 = f2) ∧ ¬ (s1 = s2 ∧ f1 = f2)))), .val (.int (b2 ((0 : Int32) < kk))), .val (.int (b2 ((1 : Int32) < kk ∧ ¬ (s0 = s1 ∧ f0 = f1)))), .val (.int (b2 ((2 : Int32) < kk ∧ (¬ (s0 = s2 ∧ f0 = f2) ∧ ¬ (s1 = s2 ∧ f1 = f2))))), .val (.int mm), .val (.int (b2 (((0 : Int32) < kk) ∨ (((1 : Int32) < kk ∧ ¬ (s0 = s1 ∧ f0 = f1)) ∧ s1 = s0 ∧ f1 = f0) ∨ (((2 : Int32) < kk ∧ (¬ (s0 = s2 ∧ f0 = f2) ∧ ¬ (s1 = s2 ∧ f1 = f2))) ∧ s2 = s0 ∧ f2 = f0)))), .val (.int (b2 ((((0 : Int32) < kk) ∧ s0 = s1 ∧ f0 = f1) ∨ ((1 : Int32) < kk ∧ ¬ (s0 = s1 ∧ f0 = f1)) ∨ (((2 : Int32) < kk ∧ (¬ (s0 = s2 ∧ f0 = f2) ∧ ¬ (s1 = s2 ∧ f1 = f2))) ∧ s2 = s1 ∧ f2 = f1)))), .val (.int (b2 ((((0 : Int32) < kk) ∧ s0 = s2 ∧ f0 = f2) ∨ (((1 : Int32) < kk ∧ ¬ (s0 = s1 ∧ f0 = f1)) ∧ s1 = s2 ∧ f1 = f2) ∨ ((2 : Int32) < kk ∧ (¬ (s0 = s2 ∧ f0 = f2) ∧ ¬ (s1 = s2 ∧ f1 = f2)))))), .val (.int (((b2 ((0 : Int32) < kk)) + (b2 (((1 : Int32) < kk ∧ ¬ (s0 = s1 ∧ f0 = f1)) ∧ s1 = s0))) + (b2 (((2 : Int32) < kk ∧ (¬ (s0 = s2 ∧ f0 = f2) ∧ ¬ (s1 = s2 ∧ f1 = f2))) ∧ s2 = s0)))), .unset, .unset] [(.int (b2 (((2 : Int32) < kk ∧ (¬ (s0 = s2 ∧ f0 = f2) ∧ ¬ (s1 = s2 ∧ f1 = f2))) ∧ s2 = s1))), (.int ((b2 (((0 : Int32) < kk) ∧ s0 = s1)) + (b2 ((1 : Int32) < kk ∧ ¬ (s0 = s1 ∧ f0 = f1)))))])
                          refine g_iadd X16 K (q := 510) at_509 rfl rfl ?_
                          refine g_istore X16 K (q := 512) (L' := #[.val (.int p0), .val (.int p1), .val (.int p2), .val (.int p3), .val (.int s0), .val (.int f0), .val (.int s1), .val (.int f1), .val (.int s2), .val (.int f2), .val (.int kk), .val (.ref b1), .val (.int (1 : Int32)), .val (.int (if (s1, f1) ∈ ([(s0, f0)] : Stk) then 0 else 1)), .val (.int (if (s2, f2) ∈ sk2 then 0 else 1)), .val (.int (1 : Int32)), .val (.int (b2 (¬ (s0 = s1 ∧ f0 = f1)))), .val (.int (b2 (¬ (s0 = s2 ∧ f0 = f2) ∧ ¬ (s1 = s2 ∧ f1 = f2)))), .val (.int (b2 ((0 : Int32) < kk))), .val (.int (b2 ((1 : Int32) < kk ∧ ¬ (s0 = s1 ∧ f0 = f1)))), .val (.int (b2 ((2 : Int32) < kk ∧ (¬ (s0 = s2 ∧ f0 = f2) ∧ ¬ (s1 = s2 ∧ f1 = f2))))), .val (.int mm), .val (.int (b2 (((0 : Int32) < kk) ∨ (((1 : Int32) < kk ∧ ¬ (s0 = s1 ∧ f0 = f1)) ∧ s1 = s0 ∧ f1 = f0) ∨ (((2 : Int32) < kk ∧ (¬ (s0 = s2 ∧ f0 = f2) ∧ ¬ (s1 = s2 ∧ f1 = f2))) ∧ s2 = s0 ∧ f2 = f0)))), .val (.int (b2 ((((0 : Int32) < kk) ∧ s0 = s1 ∧ f0 = f1) ∨ ((1 : Int32) < kk ∧ ¬ (s0 = s1 ∧ f0 = f1)) ∨ (((2 : Int32) < kk ∧ (¬ (s0 = s2 ∧ f0 = f2) ∧ ¬ (s1 = s2 ∧ f1 = f2))) ∧ s2 = s1 ∧ f2 = f1)))), .val (.int (b2 ((((0 : Int32) < kk) ∧ s0 = s2 ∧ f0 = f2) ∨ (((1 : Int32) < kk ∧ ¬ (s0 = s1 ∧ f0 = f1)) ∧ s1 = s2 ∧ f1 = f2) ∨ ((2 : Int32) < kk ∧ (¬ (s0 = s2 ∧ f0 = f2) ∧ ¬ (s1 = s2 ∧ f1 = f2)))))), .val (.int (((b2 ((0 : Int32) < kk)) + (b2 (((1 : Int32) < kk ∧ ¬ (s0 = s1 ∧ f0 = f1)) ∧ s1 = s0))) + (b2 (((2 : Int32) < kk ∧ (¬ (s0 = s2 ∧ f0 = f2) ∧ ¬ (s1 = s2 ∧ f1 = f2))) ∧ s2 = s0)))), .val (.int (((b2 (((0 : Int32) < kk) ∧ s0 = s1)) + (b2 ((1 : Int32) < kk ∧ ¬ (s0 = s1 ∧ f0 = f1)))) + (b2 (((2 : Int32) < kk ∧ (¬ (s0 = s2 ∧ f0 = f2) ∧ ¬ (s1 = s2 ∧ f1 = f2))) ∧ s2 = s1)))), .unset]) at_510 rfl rfl ?_
                          have j_529 : ∀ (Tj529 : State) (Lj : List Loc) (z : Int32), Stand p l e room_1 s m #[(.int p0), (.int p1), (.int p2), (.int p3)] below meth c Tj529 Lj 16 661 → Fr Z.heap.size Lj → Tj529.heap = T9.heap → z = b2 (((0 : Int32) < kk) ∧ s0 = s2) → Go p e below (Done s below (fun v h L => v = some (.int 1) ∧ Fr Z.heap.size L) room_1.cells room_1.slots) Tj529 (mkF m 529 #[.val (.int p0), .val (.int p1), .val (.int p2), .val (.int p3), .val (.int s0), .val (.int f0), .val (.int s1), .val (.int f1), .val (.int s2), .val (.int f2), .val (.int kk), .val (.ref b1), .val (.int (1 : Int32)), .val (.int (if (s1, f1) ∈ ([(s0, f0)] : Stk) then 0 else 1)), .val (.int (if (s2, f2) ∈ sk2 then 0 else 1)), .val (.int (1 : Int32)), .val (.int (b2 (¬ (s0 = s1 ∧ f0 = f1)))), .val (.int (b2 (¬ (s0 = s2 ∧ f0 = f2) ∧ ¬ (s1 = s2 ∧ f1 = f2)))), .val (.int (b2 ((0 : Int32) < kk))), .val (.int (b2 ((1 : Int32) < kk ∧ ¬ (s0 = s1 ∧ f0 = f1)))), .val (.int (b2 ((2 : Int32) < kk ∧ (¬ (s0 = s2 ∧ f0 = f2) ∧ ¬ (s1 = s2 ∧ f1 = f2))))), .val (.int mm), .val (.int (b2 (((0 : Int32) < kk) ∨ (((1 : Int32) < kk ∧ ¬ (s0 = s1 ∧ f0 = f1)) ∧ s1 = s0 ∧ f1 = f0) ∨ (((2 : Int32) < kk ∧ (¬ (s0 = s2 ∧ f0 = f2) ∧ ¬ (s1 = s2 ∧ f1 = f2))) ∧ s2 = s0 ∧ f2 = f0)))), .val (.int (b2 ((((0 : Int32) < kk) ∧ s0 = s1 ∧ f0 = f1) ∨ ((1 : Int32) < kk ∧ ¬ (s0 = s1 ∧ f0 = f1)) ∨ (((2 : Int32) < kk ∧ (¬ (s0 = s2 ∧ f0 = f2) ∧ ¬ (s1 = s2 ∧ f1 = f2))) ∧ s2 = s1 ∧ f2 = f1)))), .val (.int (b2 ((((0 : Int32) < kk) ∧ s0 = s2 ∧ f0 = f2) ∨ (((1 : Int32) < kk ∧ ¬ (s0 = s1 ∧ f0 = f1)) ∧ s1 = s2 ∧ f1 = f2) ∨ ((2 : Int32) < kk ∧ (¬ (s0 = s2 ∧ f0 = f2) ∧ ¬ (s1 = s2 ∧ f1 = f2)))))), .val (.int (((b2 ((0 : Int32) < kk)) + (b2 (((1 : Int32) < kk ∧ ¬ (s0 = s1 ∧ f0 = f1)) ∧ s1 = s0))) + (b2 (((2 : Int32) < kk ∧ (¬ (s0 = s2 ∧ f0 = f2) ∧ ¬ (s1 = s2 ∧ f1 = f2))) ∧ s2 = s0)))), .val (.int (((b2 (((0 : Int32) < kk) ∧ s0 = s1)) + (b2 ((1 : Int32) < kk ∧ ¬ (s0 = s1 ∧ f0 = f1)))) + (b2 (((2 : Int32) < kk ∧ (¬ (s0 = s2 ∧ f0 = f2) ∧ ¬ (s1 = s2 ∧ f1 = f2))) ∧ s2 = s1)))), .unset] [(.int z)]) := by
                            intro Tj529 Lj z Xj529 Nj529 ej529 hz
                            subst hz
                            refine g_static Xj529 K (q := 532) (W := 0) (w37 H) (w38 H) (w35 H) (w39 H) (by decide) (rm6_10 l H (b2 (((0 : Int32) < kk) ∧ s0 = s2)) T9.heap Ol9 (b2_01 _)) ej529 rfl (argsL := [(.int (b2 (((0 : Int32) < kk) ∧ s0 = s2)))]) (rest := []) (lenOf pd_4 rfl) rfl rfl (Nat.le_of_eq rfl) at_529 (by decide) (by decide) (by decide) (by decide) rfl ?_
                            rintro T17 v17 L17 X17 ⟨rfl, N17q, e17⟩
                            have N17 := Fr.app Nj529 N17q
                            show Go p e below _ T17 (mkF m 532 #[.val (.int p0), .val (.int p1), .val (.int p2), .val (.int p3), .val (.int s0), .val (.int f0), .val (.int s1), .val (.int f1), .val (.int s2), .val (.int f2), .val (.int kk), .val (.ref b1), .val (.int (1 : Int32)), .val (.int (if (s1, f1) ∈ ([(s0, f0)] : Stk) then 0 else 1)), .val (.int (if (s2, f2) ∈ sk2 then 0 else 1)), .val (.int (1 : Int32)), .val (.int (b2 (¬ (s0 = s1 ∧ f0 = f1)))), .val (.int (b2 (¬ (s0 = s2 ∧ f0 = f2) ∧ ¬ (s1 = s2 ∧ f1 = f2)))), .val (.int (b2 ((0 : Int32) < kk))), .val (.int (b2 ((1 : Int32) < kk ∧ ¬ (s0 = s1 ∧ f0 = f1)))), .val (.int (b2 ((2 : Int32) < kk ∧ (¬ (s0 = s2 ∧ f0 = f2) ∧ ¬ (s1 = s2 ∧ f1 = f2))))), .val (.int mm), .val (.int (b2 (((0 : Int32) < kk) ∨ (((1 : Int32) < kk ∧ ¬ (s0 = s1 ∧ f0 = f1)) ∧ s1 = s0 ∧ f1 = f0) ∨ (((2 : Int32) < kk ∧ (¬ (s0 = s2 ∧ f0 = f2) ∧ ¬ (s1 = s2 ∧ f1 = f2))) ∧ s2 = s0 ∧ f2 = f0)))), .val (.int (b2 ((((0 : Int32) < kk) ∧ s0 = s1 ∧ f0 = f1) ∨ ((1 : Int32) < kk ∧ ¬ (s0 = s1 ∧ f0 = f1)) ∨ (((2 : Int32) < kk ∧ (¬ (s0 = s2 ∧ f0 = f2) ∧ ¬ (s1 = s2 ∧ f1 = f2))) ∧ s2 = s1 ∧ f2 = f1)))), .val (.int (b2 ((((0 : Int32) < kk) ∧ s0 = s2 ∧ f0 = f2) ∨ (((1 : Int32) < kk ∧ ¬ (s0 = s1 ∧ f0 = f1)) ∧ s1 = s2 ∧ f1 = f2) ∨ ((2 : Int32) < kk ∧ (¬ (s0 = s2 ∧ f0 = f2) ∧ ¬ (s1 = s2 ∧ f1 = f2)))))), .val (.int (((b2 ((0 : Int32) < kk)) + (b2 (((1 : Int32) < kk ∧ ¬ (s0 = s1 ∧ f0 = f1)) ∧ s1 = s0))) + (b2 (((2 : Int32) < kk ∧ (¬ (s0 = s2 ∧ f0 = f2) ∧ ¬ (s1 = s2 ∧ f1 = f2))) ∧ s2 = s0)))), .val (.int (((b2 (((0 : Int32) < kk) ∧ s0 = s1)) + (b2 ((1 : Int32) < kk ∧ ¬ (s0 = s1 ∧ f0 = f1)))) + (b2 (((2 : Int32) < kk ∧ (¬ (s0 = s2 ∧ f0 = f2) ∧ ¬ (s1 = s2 ∧ f1 = f2))) ∧ s2 = s1)))), .unset] [(.int (b2 (((0 : Int32) < kk) ∧ s0 = s2)))])
                            have j_549 : ∀ (Tj549 : State) (Lj : List Loc) (z : Int32), Stand p l e room_1 s m #[(.int p0), (.int p1), (.int p2), (.int p3)] below meth c Tj549 Lj 16 661 → Fr Z.heap.size Lj → Tj549.heap = T9.heap → z = b2 (((1 : Int32) < kk ∧ ¬ (s0 = s1 ∧ f0 = f1)) ∧ s1 = s2) → Go p e below (Done s below (fun v h L => v = some (.int 1) ∧ Fr Z.heap.size L) room_1.cells room_1.slots) Tj549 (mkF m 549 #[.val (.int p0), .val (.int p1), .val (.int p2), .val (.int p3), .val (.int s0), .val (.int f0), .val (.int s1), .val (.int f1), .val (.int s2), .val (.int f2), .val (.int kk), .val (.ref b1), .val (.int (1 : Int32)), .val (.int (if (s1, f1) ∈ ([(s0, f0)] : Stk) then 0 else 1)), .val (.int (if (s2, f2) ∈ sk2 then 0 else 1)), .val (.int (1 : Int32)), .val (.int (b2 (¬ (s0 = s1 ∧ f0 = f1)))), .val (.int (b2 (¬ (s0 = s2 ∧ f0 = f2) ∧ ¬ (s1 = s2 ∧ f1 = f2)))), .val (.int (b2 ((0 : Int32) < kk))), .val (.int (b2 ((1 : Int32) < kk ∧ ¬ (s0 = s1 ∧ f0 = f1)))), .val (.int (b2 ((2 : Int32) < kk ∧ (¬ (s0 = s2 ∧ f0 = f2) ∧ ¬ (s1 = s2 ∧ f1 = f2))))), .val (.int mm), .val (.int (b2 (((0 : Int32) < kk) ∨ (((1 : Int32) < kk ∧ ¬ (s0 = s1 ∧ f0 = f1)) ∧ s1 = s0 ∧ f1 = f0) ∨ (((2 : Int32) < kk ∧ (¬ (s0 = s2 ∧ f0 = f2) ∧ ¬ (s1 = s2 ∧ f1 = f2))) ∧ s2 = s0 ∧ f2 = f0)))), .val (.int (b2 ((((0 : Int32) < kk) ∧ s0 = s1 ∧ f0 = f1) ∨ ((1 : Int32) < kk ∧ ¬ (s0 = s1 ∧ f0 = f1)) ∨ (((2 : Int32) < kk ∧ (¬ (s0 = s2 ∧ f0 = f2) ∧ ¬ (s1 = s2 ∧ f1 = f2))) ∧ s2 = s1 ∧ f2 = f1)))), .val (.int (b2 ((((0 : Int32) < kk) ∧ s0 = s2 ∧ f0 = f2) ∨ (((1 : Int32) < kk ∧ ¬ (s0 = s1 ∧ f0 = f1)) ∧ s1 = s2 ∧ f1 = f2) ∨ ((2 : Int32) < kk ∧ (¬ (s0 = s2 ∧ f0 = f2) ∧ ¬ (s1 = s2 ∧ f1 = f2)))))), .val (.int (((b2 ((0 : Int32) < kk)) + (b2 (((1 : Int32) < kk ∧ ¬ (s0 = s1 ∧ f0 = f1)) ∧ s1 = s0))) + (b2 (((2 : Int32) < kk ∧ (¬ (s0 = s2 ∧ f0 = f2) ∧ ¬ (s1 = s2 ∧ f1 = f2))) ∧ s2 = s0)))), .val (.int (((b2 (((0 : Int32) < kk) ∧ s0 = s1)) + (b2 ((1 : Int32) < kk ∧ ¬ (s0 = s1 ∧ f0 = f1)))) + (b2 (((2 : Int32) < kk ∧ (¬ (s0 = s2 ∧ f0 = f2) ∧ ¬ (s1 = s2 ∧ f1 = f2))) ∧ s2 = s1)))), .unset] [(.int z), (.int (b2 (((0 : Int32) < kk) ∧ s0 = s2)))]) := by
                              intro Tj549 Lj z Xj549 Nj549 ej549 hz
                              subst hz
                              refine g_static Xj549 K (q := 552) (W := 1) (w37 H) (w38 H) (w35 H) (w39 H) (by decide) (rm6_10 l H (b2 (((1 : Int32) < kk ∧ ¬ (s0 = s1 ∧ f0 = f1)) ∧ s1 = s2)) T9.heap Ol9 (b2_01 _)) ej549 rfl (argsL := [(.int (b2 (((1 : Int32) < kk ∧ ¬ (s0 = s1 ∧ f0 = f1)) ∧ s1 = s2)))]) (rest := [(.int (b2 (((0 : Int32) < kk) ∧ s0 = s2)))]) (lenOf pd_4 rfl) rfl rfl (Nat.le_of_eq rfl) at_549 (by decide) (by decide) (by decide) (by decide) rfl ?_
                              rintro T18 v18 L18 X18 ⟨rfl, N18q, e18⟩
                              have N18 := Fr.app Nj549 N18q
                              show Go p e below _ T18 (mkF m 552 #[.val (.int p0), .val (.int p1), .val (.int p2), .val (.int p3), .val (.int s0), .val (.int f0), .val (.int s1), .val (.int f1), .val (.int s2), .val (.int f2), .val (.int kk), .val (.ref b1), .val (.int (1 : Int32)), .val (.int (if (s1, f1) ∈ ([(s0, f0)] : Stk) then 0 else 1)), .val (.int (if (s2, f2) ∈ sk2 then 0 else 1)), .val (.int (1 : Int32)), .val (.int (b2 (¬ (s0 = s1 ∧ f0 = f1)))), .val (.int (b2 (¬ (s0 = s2 ∧ f0 = f2) ∧ ¬ (s1 = s2 ∧ f1 = f2)))), .val (.int (b2 ((0 : Int32) < kk))), .val (.int (b2 ((1 : Int32) < kk ∧ ¬ (s0 = s1 ∧ f0 = f1)))), .val (.int (b2 ((2 : Int32) < kk ∧ (¬ (s0 = s2 ∧ f0 = f2) ∧ ¬ (s1 = s2 ∧ f1 = f2))))), .val (.int mm), .val (.int (b2 (((0 : Int32) < kk) ∨ (((1 : Int32) < kk ∧ ¬ (s0 = s1 ∧ f0 = f1)) ∧ s1 = s0 ∧ f1 = f0) ∨ (((2 : Int32) < kk ∧ (¬ (s0 = s2 ∧ f0 = f2) ∧ ¬ (s1 = s2 ∧ f1 = f2))) ∧ s2 = s0 ∧ f2 = f0)))), .val (.int (b2 ((((0 : Int32) < kk) ∧ s0 = s1 ∧ f0 = f1) ∨ ((1 : Int32) < kk ∧ ¬ (s0 = s1 ∧ f0 = f1)) ∨ (((2 : Int32) < kk ∧ (¬ (s0 = s2 ∧ f0 = f2) ∧ ¬ (s1 = s2 ∧ f1 = f2))) ∧ s2 = s1 ∧ f2 = f1)))), .val (.int (b2 ((((0 : Int32) < kk) ∧ s0 = s2 ∧ f0 = f2) ∨ (((1 : Int32) < kk ∧ ¬ (s0 = s1 ∧ f0 = f1)) ∧ s1 = s2 ∧ f1 = f2) ∨ ((2 : Int32) < kk ∧ (¬ (s0 = s2 ∧ f0 = f2) ∧ ¬ (s1 = s2 ∧ f1 = f2)))))), .val (.int (((b2 ((0 : Int32) < kk)) + (b2 (((1 : Int32) < kk ∧ ¬ (s0 = s1 ∧ f0 = f1)) ∧ s1 = s0))) + (b2 (((2 : Int32) < kk ∧ (¬ (s0 = s2 ∧ f0 = f2) ∧ ¬ (s1 = s2 ∧ f1 = f2))) ∧ s2 = s0)))), .val (.int (((b2 (((0 : Int32) < kk) ∧ s0 = s1)) + (b2 ((1 : Int32) < kk ∧ ¬ (s0 = s1 ∧ f0 = f1)))) + (b2 (((2 : Int32) < kk ∧ (¬ (s0 = s2 ∧ f0 = f2) ∧ ¬ (s1 = s2 ∧ f1 = f2))) ∧ s2 = s1)))), .unset] [(.int (b2 (((1 : Int32) < kk ∧ ¬ (s0 = s1 ∧ f0 = f1)) ∧ s1 = s2))), (.int (b2 (((0 : Int32) < kk) ∧ s0 = s2)))])
                              refine g_iadd X18 K (q := 553) at_552 rfl rfl ?_
                              refine g_iload X18 K (q := 555) at_553 rfl rfl ?_
                              refine g_static X18 K (q := 558) (W := 1) (w37 H) (w38 H) (w35 H) (w39 H) (by decide) (rm6_10 l H (b2 ((2 : Int32) < kk ∧ (¬ (s0 = s2 ∧ f0 = f2) ∧ ¬ (s1 = s2 ∧ f1 = f2)))) T9.heap Ol9 (b2_01 _)) e18 rfl (argsL := [(.int (b2 ((2 : Int32) < kk ∧ (¬ (s0 = s2 ∧ f0 = f2) ∧ ¬ (s1 = s2 ∧ f1 = f2)))))]) (rest := [(.int ((b2 (((0 : Int32) < kk) ∧ s0 = s2)) + (b2 (((1 : Int32) < kk ∧ ¬ (s0 = s1 ∧ f0 = f1)) ∧ s1 = s2))))]) (lenOf pd_4 rfl) rfl rfl (Nat.le_of_eq rfl) at_555 (by decide) (by decide) (by decide) (by decide) rfl ?_
                              rintro T19 v19 L19 X19 ⟨rfl, N19q, e19⟩
                              have N19 := Fr.app N18 N19q
                              show Go p e below _ T19 (mkF m 558 #[.val (.int p0), .val (.int p1), .val (.int p2), .val (.int p3), .val (.int s0), .val (.int f0), .val (.int s1), .val (.int f1), .val (.int s2), .val (.int f2), .val (.int kk), .val (.ref b1), .val (.int (1 : Int32)), .val (.int (if (s1, f1) ∈ ([(s0, f0)] : Stk) then 0 else 1)), .val (.int (if (s2, f2) ∈ sk2 then 0 else 1)), .val (.int (1 : Int32)), .val (.int (b2 (¬ (s0 = s1 ∧ f0 = f1)))), .val (.int (b2 (¬ (s0 = s2 ∧ f0 = f2) ∧ ¬ (s1 = s2 ∧ f1 = f2)))), .val (.int (b2 ((0 : Int32) < kk))), .val (.int (b2 ((1 : Int32) < kk ∧ ¬ (s0 = s1 ∧ f0 = f1)))), .val (.int (b2 ((2 : Int32) < kk ∧ (¬ (s0 = s2 ∧ f0 = f2) ∧ ¬ (s1 = s2 ∧ f1 = f2))))), .val (.int mm), .val (.int (b2 (((0 : Int32) < kk) ∨ (((1 : Int32) < kk ∧ ¬ (s0 = s1 ∧ f0 = f1)) ∧ s1 = s0 ∧ f1 = f0) ∨ (((2 : Int32) < kk ∧ (¬ (s0 = s2 ∧ f0 = f2) ∧ ¬ (s1 = s2 ∧ f1 = f2))) ∧ s2 = s0 ∧ f2 = f0)))), .val (.int (b2 ((((0 : Int32) < kk) ∧ s0 = s1 ∧ f0 = f1) ∨ ((1 : Int32) < kk ∧ ¬ (s0 = s1 ∧ f0 = f1)) ∨ (((2 : Int32) < kk ∧ (¬ (s0 = s2 ∧ f0 = f2) ∧ ¬ (s1 = s2 ∧ f1 = f2))) ∧ s2 = s1 ∧ f2 = f1)))), .val (.int (b2 ((((0 : Int32) < kk) ∧ s0 = s2 ∧ f0 = f2) ∨ (((1 : Int32) < kk ∧ ¬ (s0 = s1 ∧ f0 = f1)) ∧ s1 = s2 ∧ f1 = f2) ∨ ((2 : Int32) < kk ∧ (¬ (s0 = s2 ∧ f0 = f2) ∧ ¬ (s1 = s2 ∧ f1 = f2)))))), .val (.int (((b2 ((0 : Int32) < kk)) + (b2 (((1 : Int32) < kk ∧ ¬ (s0 = s1 ∧ f0 = f1)) ∧ s1 = s0))) + (b2 (((2 : Int32) < kk ∧ (¬ (s0 = s2 ∧ f0 = f2) ∧ ¬ (s1 = s2 ∧ f1 = f2))) ∧ s2 = s0)))), .val (.int (((b2 (((0 : Int32) < kk) ∧ s0 = s1)) + (b2 ((1 : Int32) < kk ∧ ¬ (s0 = s1 ∧ f0 = f1)))) + (b2 (((2 : Int32) < kk ∧ (¬ (s0 = s2 ∧ f0 = f2) ∧ ¬ (s1 = s2 ∧ f1 = f2))) ∧ s2 = s1)))), .unset] [(.int (b2 ((2 : Int32) < kk ∧ (¬ (s0 = s2 ∧ f0 = f2) ∧ ¬ (s1 = s2 ∧ f1 = f2))))), (.int ((b2 (((0 : Int32) < kk) ∧ s0 = s2)) + (b2 (((1 : Int32) < kk ∧ ¬ (s0 = s1 ∧ f0 = f1)) ∧ s1 = s2))))])
                              refine g_iadd X19 K (q := 559) at_558 rfl rfl ?_
                              refine g_istore X19 K (q := 561) (L' := #[.val (.int p0), .val (.int p1), .val (.int p2), .val (.int p3), .val (.int s0), .val (.int f0), .val (.int s1), .val (.int f1), .val (.int s2), .val (.int f2), .val (.int kk), .val (.ref b1), .val (.int (1 : Int32)), .val (.int (if (s1, f1) ∈ ([(s0, f0)] : Stk) then 0 else 1)), .val (.int (if (s2, f2) ∈ sk2 then 0 else 1)), .val (.int (1 : Int32)), .val (.int (b2 (¬ (s0 = s1 ∧ f0 = f1)))), .val (.int (b2 (¬ (s0 = s2 ∧ f0 = f2) ∧ ¬ (s1 = s2 ∧ f1 = f2)))), .val (.int (b2 ((0 : Int32) < kk))), .val (.int (b2 ((1 : Int32) < kk ∧ ¬ (s0 = s1 ∧ f0 = f1)))), .val (.int (b2 ((2 : Int32) < kk ∧ (¬ (s0 = s2 ∧ f0 = f2) ∧ ¬ (s1 = s2 ∧ f1 = f2))))), .val (.int mm), .val (.int (b2 (((0 : Int32) < kk) ∨ (((1 : Int32) < kk ∧ ¬ (s0 = s1 ∧ f0 = f1)) ∧ s1 = s0 ∧ f1 = f0) ∨ (((2 : Int32) < kk ∧ (¬ (s0 = s2 ∧ f0 = f2) ∧ ¬ (s1 = s2 ∧ f1 = f2))) ∧ s2 = s0 ∧ f2 = f0)))), .val (.int (b2 ((((0 : Int32) < kk) ∧ s0 = s1 ∧ f0 = f1) ∨ ((1 : Int32) < kk ∧ ¬ (s0 = s1 ∧ f0 = f1)) ∨ (((2 : Int32) < kk ∧ (¬ (s0 = s2 ∧ f0 = f2) ∧ ¬ (s1 = s2 ∧ f1 = f2))) ∧ s2 = s1 ∧ f2 = f1)))), .val (.int (b2 ((((0 : Int32) < kk) ∧ s0 = s2 ∧ f0 = f2) ∨ (((1 : Int32) < kk ∧ ¬ (s0 = s1 ∧ f0 = f1)) ∧ s1 = s2 ∧ f1 = f2) ∨ ((2 : Int32) < kk ∧ (¬ (s0 = s2 ∧ f0 = f2) ∧ ¬ (s1 = s2 ∧ f1 = f2)))))), .val (.int (((b2 ((0 : Int32) < kk)) + (b2 (((1 : Int32) < kk ∧ ¬ (s0 = s1 ∧ f0 = f1)) ∧ s1 = s0))) + (b2 (((2 : Int32) < kk ∧ (¬ (s0 = s2 ∧ f0 = f2) ∧ ¬ (s1 = s2 ∧ f1 = f2))) ∧ s2 = s0)))), .val (.int (((b2 (((0 : Int32) < kk) ∧ s0 = s1)) + (b2 ((1 : Int32) < kk ∧ ¬ (s0 = s1 ∧ f0 = f1)))) + (b2 (((2 : Int32) < kk ∧ (¬ (s0 = s2 ∧ f0 = f2) ∧ ¬ (s1 = s2 ∧ f1 = f2))) ∧ s2 = s1)))), .val (.int (((b2 (((0 : Int32) < kk) ∧ s0 = s2)) + (b2 (((1 : Int32) < kk ∧ ¬ (s0 = s1 ∧ f0 = f1)) ∧ s1 = s2))) + (b2 ((2 : Int32) < kk ∧ (¬ (s0 = s2 ∧ f0 = f2) ∧ ¬ (s1 = s2 ∧ f1 = f2))))))]) at_559 rfl rfl ?_
                              refine g_aload X19 K (q := 563) at_561 rfl rfl rfl ?_
                              refine g_iload X19 K (q := 565) at_563 rfl rfl ?_
                              refine g_iload X19 K (q := 567) at_565 rfl rfl ?_
                              refine g_virtual X19 K (q := 570) (W := 0) (a := b1) (w50 H) (w27 H) (nf_self K (w29 H)) (w29 H) (w28 H) (w2 H) (w30 H) (by decide) (rmC l H b1 (8 : Int32) s0 f0 128 sk4 T9.heap Ol9 hB9 hs0.1 hs0.2 hf0.1) e19 (BI.exa hB9) rfl (argsL := [(.int s0), (.int f0)]) (rest := []) (lenOf pd_1 rfl) rfl rfl (Nat.le_of_eq rfl) at_567 (by decide) (by decide) (by decide) (by decide) rfl ?_
                              rintro T20 v20 L20 X20 ⟨rfl, N20q, e20⟩
                              have N20 := Fr.app N19 N20q
                              show Go p e below _ T20 (mkF m 570 #[.val (.int p0), .val (.int p1), .val (.int p2), .val (.int p3), .val (.int s0), .val (.int f0), .val (.int s1), .val (.int f1), .val (.int s2), .val (.int f2), .val (.int kk), .val (.ref b1), .val (.int (1 : Int32)), .val (.int (if (s1, f1) ∈ ([(s0, f0)] : Stk) then 0 else 1)), .val (.int (if (s2, f2) ∈ sk2 then 0 else 1)), .val (.int (1 : Int32)), .val (.int (b2 (¬ (s0 = s1 ∧ f0 = f1)))), .val (.int (b2 (¬ (s0 = s2 ∧ f0 = f2) ∧ ¬ (s1 = s2 ∧ f1 = f2)))), .val (.int (b2 ((0 : Int32) < kk))), .val (.int (b2 ((1 : Int32) < kk ∧ ¬ (s0 = s1 ∧ f0 = f1)))), .val (.int (b2 ((2 : Int32) < kk ∧ (¬ (s0 = s2 ∧ f0 = f2) ∧ ¬ (s1 = s2 ∧ f1 = f2))))), .val (.int mm), .val (.int (b2 (((0 : Int32) < kk) ∨ (((1 : Int32) < kk ∧ ¬ (s0 = s1 ∧ f0 = f1)) ∧ s1 = s0 ∧ f1 = f0) ∨ (((2 : Int32) < kk ∧ (¬ (s0 = s2 ∧ f0 = f2) ∧ ¬ (s1 = s2 ∧ f1 = f2))) ∧ s2 = s0 ∧ f2 = f0)))), .val (.int (b2 ((((0 : Int32) < kk) ∧ s0 = s1 ∧ f0 = f1) ∨ ((1 : Int32) < kk ∧ ¬ (s0 = s1 ∧ f0 = f1)) ∨ (((2 : Int32) < kk ∧ (¬ (s0 = s2 ∧ f0 = f2) ∧ ¬ (s1 = s2 ∧ f1 = f2))) ∧ s2 = s1 ∧ f2 = f1)))), .val (.int (b2 ((((0 : Int32) < kk) ∧ s0 = s2 ∧ f0 = f2) ∨ (((1 : Int32) < kk ∧ ¬ (s0 = s1 ∧ f0 = f1)) ∧ s1 = s2 ∧ f1 = f2) ∨ ((2 : Int32) < kk ∧ (¬ (s0 = s2 ∧ f0 = f2) ∧ ¬ (s1 = s2 ∧ f1 = f2)))))), .val (.int (((b2 ((0 : Int32) < kk)) + (b2 (((1 : Int32) < kk ∧ ¬ (s0 = s1 ∧ f0 = f1)) ∧ s1 = s0))) + (b2 (((2 : Int32) < kk ∧ (¬ (s0 = s2 ∧ f0 = f2) ∧ ¬ (s1 = s2 ∧ f1 = f2))) ∧ s2 = s0)))), .val (.int (((b2 (((0 : Int32) < kk) ∧ s0 = s1)) + (b2 ((1 : Int32) < kk ∧ ¬ (s0 = s1 ∧ f0 = f1)))) + (b2 (((2 : Int32) < kk ∧ (¬ (s0 = s2 ∧ f0 = f2) ∧ ¬ (s1 = s2 ∧ f1 = f2))) ∧ s2 = s1)))), .val (.int (((b2 (((0 : Int32) < kk) ∧ s0 = s2)) + (b2 (((1 : Int32) < kk ∧ ¬ (s0 = s1 ∧ f0 = f1)) ∧ s1 = s2))) + (b2 ((2 : Int32) < kk ∧ (¬ (s0 = s2 ∧ f0 = f2) ∧ ¬ (s1 = s2 ∧ f1 = f2))))))] [(.int (if (s0, f0) ∈ sk4 then 1 else 0))])
                              refine g_iload X20 K (q := 572) at_570 rfl rfl ?_
                              refine g_icN X20 K (q := 575) at_572 (teq (b2_iff hP0)).2 rfl ?_
                              refine g_aload X20 K (q := 577) at_575 rfl rfl rfl ?_
                              refine g_iload X20 K (q := 579) at_577 rfl rfl ?_
                              refine g_iload X20 K (q := 581) at_579 rfl rfl ?_
                              refine g_virtual X20 K (q := 584) (W := 0) (a := b1) (w50 H) (w27 H) (nf_self K (w29 H)) (w29 H) (w28 H) (w2 H) (w30 H) (by decide) (rmC l H b1 (8 : Int32) s1 f1 128 sk4 T9.heap Ol9 hB9 hs1.1 hs1.2 hf1.1) e20 (BI.exa hB9) rfl (argsL := [(.int s1), (.int f1)]) (rest := []) (lenOf pd_1 rfl) rfl rfl (Nat.le_of_eq rfl) at_581 (by decide) (by decide) (by decide) (by decide) rfl ?_
                              rintro T21 v21 L21 X21 ⟨rfl, N21q, e21⟩
                              have N21 := Fr.app N20 N21q
                              show Go p e below _ T21 (mkF m 584 #[.val (.int p0), .val (.int p1), .val (.int p2), .val (.int p3), .val (.int s0), .val (.int f0), .val (.int s1), .val (.int f1), .val (.int s2), .val (.int f2), .val (.int kk), .val (.ref b1), .val (.int (1 : Int32)), .val (.int (if (s1, f1) ∈ ([(s0, f0)] : Stk) then 0 else 1)), .val (.int (if (s2, f2) ∈ sk2 then 0 else 1)), .val (.int (1 : Int32)), .val (.int (b2 (¬ (s0 = s1 ∧ f0 = f1)))), .val (.int (b2 (¬ (s0 = s2 ∧ f0 = f2) ∧ ¬ (s1 = s2 ∧ f1 = f2)))), .val (.int (b2 ((0 : Int32) < kk))), .val (.int (b2 ((1 : Int32) < kk ∧ ¬ (s0 = s1 ∧ f0 = f1)))), .val (.int (b2 ((2 : Int32) < kk ∧ (¬ (s0 = s2 ∧ f0 = f2) ∧ ¬ (s1 = s2 ∧ f1 = f2))))), .val (.int mm), .val (.int (b2 (((0 : Int32) < kk) ∨ (((1 : Int32) < kk ∧ ¬ (s0 = s1 ∧ f0 = f1)) ∧ s1 = s0 ∧ f1 = f0) ∨ (((2 : Int32) < kk ∧ (¬ (s0 = s2 ∧ f0 = f2) ∧ ¬ (s1 = s2 ∧ f1 = f2))) ∧ s2 = s0 ∧ f2 = f0)))), .val (.int (b2 ((((0 : Int32) < kk) ∧ s0 = s1 ∧ f0 = f1) ∨ ((1 : Int32) < kk ∧ ¬ (s0 = s1 ∧ f0 = f1)) ∨ (((2 : Int32) < kk ∧ (¬ (s0 = s2 ∧ f0 = f2) ∧ ¬ (s1 = s2 ∧ f1 = f2))) ∧ s2 = s1 ∧ f2 = f1)))), .val (.int (b2 ((((0 : Int32) < kk) ∧ s0 = s2 ∧ f0 = f2) ∨ (((1 : Int32) < kk ∧ ¬ (s0 = s1 ∧ f0 = f1)) ∧ s1 = s2 ∧ f1 = f2) ∨ ((2 : Int32) < kk ∧ (¬ (s0 = s2 ∧ f0 = f2) ∧ ¬ (s1 = s2 ∧ f1 = f2)))))), .val (.int (((b2 ((0 : Int32) < kk)) + (b2 (((1 : Int32) < kk ∧ ¬ (s0 = s1 ∧ f0 = f1)) ∧ s1 = s0))) + (b2 (((2 : Int32) < kk ∧ (¬ (s0 = s2 ∧ f0 = f2) ∧ ¬ (s1 = s2 ∧ f1 = f2))) ∧ s2 = s0)))), .val (.int (((b2 (((0 : Int32) < kk) ∧ s0 = s1)) + (b2 ((1 : Int32) < kk ∧ ¬ (s0 = s1 ∧ f0 = f1)))) + (b2 (((2 : Int32) < kk ∧ (¬ (s0 = s2 ∧ f0 = f2) ∧ ¬ (s1 = s2 ∧ f1 = f2))) ∧ s2 = s1)))), .val (.int (((b2 (((0 : Int32) < kk) ∧ s0 = s2)) + (b2 (((1 : Int32) < kk ∧ ¬ (s0 = s1 ∧ f0 = f1)) ∧ s1 = s2))) + (b2 ((2 : Int32) < kk ∧ (¬ (s0 = s2 ∧ f0 = f2) ∧ ¬ (s1 = s2 ∧ f1 = f2))))))] [(.int (if (s1, f1) ∈ sk4 then 1 else 0))])
                              refine g_iload X21 K (q := 586) at_584 rfl rfl ?_
                              refine g_icN X21 K (q := 589) at_586 (teq (b2_iff hP1)).2 rfl ?_
                              refine g_aload X21 K (q := 591) at_589 rfl rfl rfl ?_
                              refine g_iload X21 K (q := 593) at_591 rfl rfl ?_
                              refine g_iload X21 K (q := 595) at_593 rfl rfl ?_
                              refine g_virtual X21 K (q := 598) (W := 0) (a := b1) (w50 H) (w27 H) (nf_self K (w29 H)) (w29 H) (w28 H) (w2 H) (w30 H) (by decide) (rmC l H b1 (8 : Int32) s2 f2 128 sk4 T9.heap Ol9 hB9 hs2.1 hs2.2 hf2.1) e21 (BI.exa hB9) rfl (argsL := [(.int s2), (.int f2)]) (rest := []) (lenOf pd_1 rfl) rfl rfl (Nat.le_of_eq rfl) at_595 (by decide) (by decide) (by decide) (by decide) rfl ?_
                              rintro T22 v22 L22 X22 ⟨rfl, N22q, e22⟩
                              have N22 := Fr.app N21 N22q
                              show Go p e below _ T22 (mkF m 598 #[.val (.int p0), .val (.int p1), .val (.int p2), .val (.int p3), .val (.int s0), .val (.int f0), .val (.int s1), .val (.int f1), .val (.int s2), .val (.int f2), .val (.int kk), .val (.ref b1), .val (.int (1 : Int32)), .val (.int (if (s1, f1) ∈ ([(s0, f0)] : Stk) then 0 else 1)), .val (.int (if (s2, f2) ∈ sk2 then 0 else 1)), .val (.int (1 : Int32)), .val (.int (b2 (¬ (s0 = s1 ∧ f0 = f1)))), .val (.int (b2 (¬ (s0 = s2 ∧ f0 = f2) ∧ ¬ (s1 = s2 ∧ f1 = f2)))), .val (.int (b2 ((0 : Int32) < kk))), .val (.int (b2 ((1 : Int32) < kk ∧ ¬ (s0 = s1 ∧ f0 = f1)))), .val (.int (b2 ((2 : Int32) < kk ∧ (¬ (s0 = s2 ∧ f0 = f2) ∧ ¬ (s1 = s2 ∧ f1 = f2))))), .val (.int mm), .val (.int (b2 (((0 : Int32) < kk) ∨ (((1 : Int32) < kk ∧ ¬ (s0 = s1 ∧ f0 = f1)) ∧ s1 = s0 ∧ f1 = f0) ∨ (((2 : Int32) < kk ∧ (¬ (s0 = s2 ∧ f0 = f2) ∧ ¬ (s1 = s2 ∧ f1 = f2))) ∧ s2 = s0 ∧ f2 = f0)))), .val (.int (b2 ((((0 : Int32) < kk) ∧ s0 = s1 ∧ f0 = f1) ∨ ((1 : Int32) < kk ∧ ¬ (s0 = s1 ∧ f0 = f1)) ∨ (((2 : Int32) < kk ∧ (¬ (s0 = s2 ∧ f0 = f2) ∧ ¬ (s1 = s2 ∧ f1 = f2))) ∧ s2 = s1 ∧ f2 = f1)))), .val (.int (b2 ((((0 : Int32) < kk) ∧ s0 = s2 ∧ f0 = f2) ∨ (((1 : Int32) < kk ∧ ¬ (s0 = s1 ∧ f0 = f1)) ∧ s1 = s2 ∧ f1 = f2) ∨ ((2 : Int32) < kk ∧ (¬ (s0 = s2 ∧ f0 = f2) ∧ ¬ (s1 = s2 ∧ f1 = f2)))))), .val (.int (((b2 ((0 : Int32) < kk)) + (b2 (((1 : Int32) < kk ∧ ¬ (s0 = s1 ∧ f0 = f1)) ∧ s1 = s0))) + (b2 (((2 : Int32) < kk ∧ (¬ (s0 = s2 ∧ f0 = f2) ∧ ¬ (s1 = s2 ∧ f1 = f2))) ∧ s2 = s0)))), .val (.int (((b2 (((0 : Int32) < kk) ∧ s0 = s1)) + (b2 ((1 : Int32) < kk ∧ ¬ (s0 = s1 ∧ f0 = f1)))) + (b2 (((2 : Int32) < kk ∧ (¬ (s0 = s2 ∧ f0 = f2) ∧ ¬ (s1 = s2 ∧ f1 = f2))) ∧ s2 = s1)))), .val (.int (((b2 (((0 : Int32) < kk) ∧ s0 = s2)) + (b2 (((1 : Int32) < kk ∧ ¬ (s0 = s1 ∧ f0 = f1)) ∧ s1 = s2))) + (b2 ((2 : Int32) < kk ∧ (¬ (s0 = s2 ∧ f0 = f2) ∧ ¬ (s1 = s2 ∧ f1 = f2))))))] [(.int (if (s2, f2) ∈ sk4 then 1 else 0))])
                              refine g_iload X22 K (q := 600) at_598 rfl rfl ?_
                              refine g_icN X22 K (q := 603) at_600 (teq (b2_iff hP2)).2 rfl ?_
                              refine g_aload X22 K (q := 605) at_603 rfl rfl rfl ?_
                              refine g_iload X22 K (q := 607) at_605 rfl rfl ?_
                              refine g_virtual X22 K (q := 610) (W := 0) (a := b1) (w51 H) (w52 H) (nf_self K (w54 H)) (w54 H) (w53 H) (w2 H) (w55 H) (by decide) (rmS l H b1 (8 : Int32) s0 128 sk4 T9.heap Ol9 hB9 hs0.1 hs0.2) e22 (BI.exa hB9) rfl (argsL := [(.int s0)]) (rest := []) (lenOf pd_6 rfl) rfl rfl (Nat.le_of_eq rfl) at_607 (by decide) (by decide) (by decide) (by decide) rfl ?_
                              rintro T23 v23 L23 X23 ⟨rfl, N23q, e23⟩
                              have N23 := Fr.app N22 N23q
                              show Go p e below _ T23 (mkF m 610 #[.val (.int p0), .val (.int p1), .val (.int p2), .val (.int p3), .val (.int s0), .val (.int f0), .val (.int s1), .val (.int f1), .val (.int s2), .val (.int f2), .val (.int kk), .val (.ref b1), .val (.int (1 : Int32)), .val (.int (if (s1, f1) ∈ ([(s0, f0)] : Stk) then 0 else 1)), .val (.int (if (s2, f2) ∈ sk2 then 0 else 1)), .val (.int (1 : Int32)), .val (.int (b2 (¬ (s0 = s1 ∧ f0 = f1)))), .val (.int (b2 (¬ (s0 = s2 ∧ f0 = f2) ∧ ¬ (s1 = s2 ∧ f1 = f2)))), .val (.int (b2 ((0 : Int32) < kk))), .val (.int (b2 ((1 : Int32) < kk ∧ ¬ (s0 = s1 ∧ f0 = f1)))), .val (.int (b2 ((2 : Int32) < kk ∧ (¬ (s0 = s2 ∧ f0 = f2) ∧ ¬ (s1 = s2 ∧ f1 = f2))))), .val (.int mm), .val (.int (b2 (((0 : Int32) < kk) ∨ (((1 : Int32) < kk ∧ ¬ (s0 = s1 ∧ f0 = f1)) ∧ s1 = s0 ∧ f1 = f0) ∨ (((2 : Int32) < kk ∧ (¬ (s0 = s2 ∧ f0 = f2) ∧ ¬ (s1 = s2 ∧ f1 = f2))) ∧ s2 = s0 ∧ f2 = f0)))), .val (.int (b2 ((((0 : Int32) < kk) ∧ s0 = s1 ∧ f0 = f1) ∨ ((1 : Int32) < kk ∧ ¬ (s0 = s1 ∧ f0 = f1)) ∨ (((2 : Int32) < kk ∧ (¬ (s0 = s2 ∧ f0 = f2) ∧ ¬ (s1 = s2 ∧ f1 = f2))) ∧ s2 = s1 ∧ f2 = f1)))), .val (.int (b2 ((((0 : Int32) < kk) ∧ s0 = s2 ∧ f0 = f2) ∨ (((1 : Int32) < kk ∧ ¬ (s0 = s1 ∧ f0 = f1)) ∧ s1 = s2 ∧ f1 = f2) ∨ ((2 : Int32) < kk ∧ (¬ (s0 = s2 ∧ f0 = f2) ∧ ¬ (s1 = s2 ∧ f1 = f2)))))), .val (.int (((b2 ((0 : Int32) < kk)) + (b2 (((1 : Int32) < kk ∧ ¬ (s0 = s1 ∧ f0 = f1)) ∧ s1 = s0))) + (b2 (((2 : Int32) < kk ∧ (¬ (s0 = s2 ∧ f0 = f2) ∧ ¬ (s1 = s2 ∧ f1 = f2))) ∧ s2 = s0)))), .val (.int (((b2 (((0 : Int32) < kk) ∧ s0 = s1)) + (b2 ((1 : Int32) < kk ∧ ¬ (s0 = s1 ∧ f0 = f1)))) + (b2 (((2 : Int32) < kk ∧ (¬ (s0 = s2 ∧ f0 = f2) ∧ ¬ (s1 = s2 ∧ f1 = f2))) ∧ s2 = s1)))), .val (.int (((b2 (((0 : Int32) < kk) ∧ s0 = s2)) + (b2 (((1 : Int32) < kk ∧ ¬ (s0 = s1 ∧ f0 = f1)) ∧ s1 = s2))) + (b2 ((2 : Int32) < kk ∧ (¬ (s0 = s2 ∧ f0 = f2) ∧ ¬ (s1 = s2 ∧ f1 = f2))))))] [(.int (Int32.ofNat (cntS sk4 s0)))])
                              refine g_iload X23 K (q := 612) at_610 rfl rfl ?_
                              refine g_icN X23 K (q := 615) at_612 (teq hZ0).2 rfl ?_
                              refine g_aload X23 K (q := 617) at_615 rfl rfl rfl ?_
                              refine g_iload X23 K (q := 619) at_617 rfl rfl ?_
                              refine g_virtual X23 K (q := 622) (W := 0) (a := b1) (w51 H) (w52 H) (nf_self K (w54 H)) (w54 H) (w53 H) (w2 H) (w55 H) (by decide) (rmS l H b1 (8 : Int32) s1 128 sk4 T9.heap Ol9 hB9 hs1.1 hs1.2) e23 (BI.exa hB9) rfl (argsL := [(.int s1)]) (rest := []) (lenOf pd_6 rfl) rfl rfl (Nat.le_of_eq rfl) at_619 (by decide) (by decide) (by decide) (by decide) rfl ?_
                              rintro T24 v24 L24 X24 ⟨rfl, N24q, e24⟩
                              have N24 := Fr.app N23 N24q
                              show Go p e below _ T24 (mkF m 622 #[.val (.int p0), .val (.int p1), .val (.int p2), .val (.int p3), .val (.int s0), .val (.int f0), .val (.int s1), .val (.int f1), .val (.int s2), .val (.int f2), .val (.int kk), .val (.ref b1), .val (.int (1 : Int32)), .val (.int (if (s1, f1) ∈ ([(s0, f0)] : Stk) then 0 else 1)), .val (.int (if (s2, f2) ∈ sk2 then 0 else 1)), .val (.int (1 : Int32)), .val (.int (b2 (¬ (s0 = s1 ∧ f0 = f1)))), .val (.int (b2 (¬ (s0 = s2 ∧ f0 = f2) ∧ ¬ (s1 = s2 ∧ f1 = f2)))), .val (.int (b2 ((0 : Int32) < kk))), .val (.int (b2 ((1 : Int32) < kk ∧ ¬ (s0 = s1 ∧ f0 = f1)))), .val (.int (b2 ((2 : Int32) < kk ∧ (¬ (s0 = s2 ∧ f0 = f2) ∧ ¬ (s1 = s2 ∧ f1 = f2))))), .val (.int mm), .val (.int (b2 (((0 : Int32) < kk) ∨ (((1 : Int32) < kk ∧ ¬ (s0 = s1 ∧ f0 = f1)) ∧ s1 = s0 ∧ f1 = f0) ∨ (((2 : Int32) < kk ∧ (¬ (s0 = s2 ∧ f0 = f2) ∧ ¬ (s1 = s2 ∧ f1 = f2))) ∧ s2 = s0 ∧ f2 = f0)))), .val (.int (b2 ((((0 : Int32) < kk) ∧ s0 = s1 ∧ f0 = f1) ∨ ((1 : Int32) < kk ∧ ¬ (s0 = s1 ∧ f0 = f1)) ∨ (((2 : Int32) < kk ∧ (¬ (s0 = s2 ∧ f0 = f2) ∧ ¬ (s1 = s2 ∧ f1 = f2))) ∧ s2 = s1 ∧ f2 = f1)))), .val (.int (b2 ((((0 : Int32) < kk) ∧ s0 = s2 ∧ f0 = f2) ∨ (((1 : Int32) < kk ∧ ¬ (s0 = s1 ∧ f0 = f1)) ∧ s1 = s2 ∧ f1 = f2) ∨ ((2 : Int32) < kk ∧ (¬ (s0 = s2 ∧ f0 = f2) ∧ ¬ (s1 = s2 ∧ f1 = f2)))))), .val (.int (((b2 ((0 : Int32) < kk)) + (b2 (((1 : Int32) < kk ∧ ¬ (s0 = s1 ∧ f0 = f1)) ∧ s1 = s0))) + (b2 (((2 : Int32) < kk ∧ (¬ (s0 = s2 ∧ f0 = f2) ∧ ¬ (s1 = s2 ∧ f1 = f2))) ∧ s2 = s0)))), .val (.int (((b2 (((0 : Int32) < kk) ∧ s0 = s1)) + (b2 ((1 : Int32) < kk ∧ ¬ (s0 = s1 ∧ f0 = f1)))) + (b2 (((2 : Int32) < kk ∧ (¬ (s0 = s2 ∧ f0 = f2) ∧ ¬ (s1 = s2 ∧ f1 = f2))) ∧ s2 = s1)))), .val (.int (((b2 (((0 : Int32) < kk) ∧ s0 = s2)) + (b2 (((1 : Int32) < kk ∧ ¬ (s0 = s1 ∧ f0 = f1)) ∧ s1 = s2))) + (b2 ((2 : Int32) < kk ∧ (¬ (s0 = s2 ∧ f0 = f2) ∧ ¬ (s1 = s2 ∧ f1 = f2))))))] [(.int (Int32.ofNat (cntS sk4 s1)))])
                              refine g_iload X24 K (q := 624) at_622 rfl rfl ?_
                              refine g_icN X24 K (q := 627) at_624 (teq hZ1).2 rfl ?_
                              refine g_aload X24 K (q := 629) at_627 rfl rfl rfl ?_
                              refine g_iload X24 K (q := 631) at_629 rfl rfl ?_
                              refine g_virtual X24 K (q := 634) (W := 0) (a := b1) (w51 H) (w52 H) (nf_self K (w54 H)) (w54 H) (w53 H) (w2 H) (w55 H) (by decide) (rmS l H b1 (8 : Int32) s2 128 sk4 T9.heap Ol9 hB9 hs2.1 hs2.2) e24 (BI.exa hB9) rfl (argsL := [(.int s2)]) (rest := []) (lenOf pd_6 rfl) rfl rfl (Nat.le_of_eq rfl) at_631 (by decide) (by decide) (by decide) (by decide) rfl ?_
                              rintro T25 v25 L25 X25 ⟨rfl, N25q, e25⟩
                              have N25 := Fr.app N24 N25q
                              show Go p e below _ T25 (mkF m 634 #[.val (.int p0), .val (.int p1), .val (.int p2), .val (.int p3), .val (.int s0), .val (.int f0), .val (.int s1), .val (.int f1), .val (.int s2), .val (.int f2), .val (.int kk), .val (.ref b1), .val (.int (1 : Int32)), .val (.int (if (s1, f1) ∈ ([(s0, f0)] : Stk) then 0 else 1)), .val (.int (if (s2, f2) ∈ sk2 then 0 else 1)), .val (.int (1 : Int32)), .val (.int (b2 (¬ (s0 = s1 ∧ f0 = f1)))), .val (.int (b2 (¬ (s0 = s2 ∧ f0 = f2) ∧ ¬ (s1 = s2 ∧ f1 = f2)))), .val (.int (b2 ((0 : Int32) < kk))), .val (.int (b2 ((1 : Int32) < kk ∧ ¬ (s0 = s1 ∧ f0 = f1)))), .val (.int (b2 ((2 : Int32) < kk ∧ (¬ (s0 = s2 ∧ f0 = f2) ∧ ¬ (s1 = s2 ∧ f1 = f2))))), .val (.int mm), .val (.int (b2 (((0 : Int32) < kk) ∨ (((1 : Int32) < kk ∧ ¬ (s0 = s1 ∧ f0 = f1)) ∧ s1 = s0 ∧ f1 = f0) ∨ (((2 : Int32) < kk ∧ (¬ (s0 = s2 ∧ f0 = f2) ∧ ¬ (s1 = s2 ∧ f1 = f2))) ∧ s2 = s0 ∧ f2 = f0)))), .val (.int (b2 ((((0 : Int32) < kk) ∧ s0 = s1 ∧ f0 = f1) ∨ ((1 : Int32) < kk ∧ ¬ (s0 = s1 ∧ f0 = f1)) ∨ (((2 : Int32) < kk ∧ (¬ (s0 = s2 ∧ f0 = f2) ∧ ¬ (s1 = s2 ∧ f1 = f2))) ∧ s2 = s1 ∧ f2 = f1)))), .val (.int (b2 ((((0 : Int32) < kk) ∧ s0 = s2 ∧ f0 = f2) ∨ (((1 : Int32) < kk ∧ ¬ (s0 = s1 ∧ f0 = f1)) ∧ s1 = s2 ∧ f1 = f2) ∨ ((2 : Int32) < kk ∧ (¬ (s0 = s2 ∧ f0 = f2) ∧ ¬ (s1 = s2 ∧ f1 = f2)))))), .val (.int (((b2 ((0 : Int32) < kk)) + (b2 (((1 : Int32) < kk ∧ ¬ (s0 = s1 ∧ f0 = f1)) ∧ s1 = s0))) + (b2 (((2 : Int32) < kk ∧ (¬ (s0 = s2 ∧ f0 = f2) ∧ ¬ (s1 = s2 ∧ f1 = f2))) ∧ s2 = s0)))), .val (.int (((b2 (((0 : Int32) < kk) ∧ s0 = s1)) + (b2 ((1 : Int32) < kk ∧ ¬ (s0 = s1 ∧ f0 = f1)))) + (b2 (((2 : Int32) < kk ∧ (¬ (s0 = s2 ∧ f0 = f2) ∧ ¬ (s1 = s2 ∧ f1 = f2))) ∧ s2 = s1)))), .val (.int (((b2 (((0 : Int32) < kk) ∧ s0 = s2)) + (b2 (((1 : Int32) < kk ∧ ¬ (s0 = s1 ∧ f0 = f1)) ∧ s1 = s2))) + (b2 ((2 : Int32) < kk ∧ (¬ (s0 = s2 ∧ f0 = f2) ∧ ¬ (s1 = s2 ∧ f1 = f2))))))] [(.int (Int32.ofNat (cntS sk4 s2)))])
                              refine g_iload X25 K (q := 636) at_634 rfl rfl ?_
                              refine g_icN X25 K (q := 639) at_636 (teq hZ2).2 rfl ?_
                              refine g_iconst X25 K (q := 640) (v := (1 : Int32)) at_639 (by decide) rfl ?_
                              refine g_goto X25 K (q := 644) at_640 (by decide) (by decide) ?_
                              refine g_nret X25 K (by simp) (z' := (1 : Int32)) (by decide) at_644 (by decide) (by decide) ?_
                              exact ⟨rfl, N25⟩
                            refine g_iload X17 K (q := 534) at_532 rfl rfl ?_
                            by_cases hp1 : (1 : Int32) < kk ∧ ¬ (s0 = s1 ∧ f0 = f1)
                            · refine g_ifN X17 K (q := 537) at_534 (feq (b2_n0 hp1)).1 rfl ?_
                              refine g_iload X17 K (q := 539) at_537 rfl rfl ?_
                              refine g_iload X17 K (q := 541) at_539 rfl rfl ?_
                              by_cases hc1 : s1 = s2
                              · refine g_icN X17 K (q := 544) at_541 (teq hc1).2 rfl ?_
                                refine g_iconst X17 K (q := 545) (v := (1 : Int32)) at_544 (by decide) rfl ?_
                                refine g_goto X17 K (q := 549) at_545 (by decide) (by decide) ?_
                                exact j_549 T17 _ _ X17 N17 e17 (b2_1 (by first | assumption | exact ⟨by assumption, by assumption⟩ | exact Or.inl (by assumption) | exact Or.inr (Or.inl (by assumption)) | exact Or.inr (Or.inr (by assumption)) | exact Or.inl ⟨by assumption, by assumption⟩ | exact Or.inr (Or.inl ⟨by assumption, by assumption⟩) | exact Or.inr (Or.inr ⟨by assumption, by assumption⟩)))
                              · refine g_icY X17 K (q := 548) at_541 (feq hc1).2 (by decide) (by decide) ?_
                                refine g_iconst X17 K (q := 549) (v := (0 : Int32)) at_548 (by decide) rfl ?_
                                exact j_549 T17 _ _ X17 N17 e17 (b2_0 (by rintro ⟨q1, q2⟩ <;> contradiction))
                            · refine g_ifY X17 K (q := 548) at_534 (teq (b2_z hp1)).1 (by decide) (by decide) ?_
                              refine g_iconst X17 K (q := 549) (v := (0 : Int32)) at_548 (by decide) rfl ?_
                              exact j_549 T17 _ _ X17 N17 e17 (b2_0 (by rintro ⟨q1, q2⟩ <;> contradiction))
                          refine g_iload X16 K (q := 514) at_512 rfl rfl ?_
                          by_cases hp2 : (0 : Int32) < kk
                          · refine g_ifN X16 K (q := 517) at_514 (feq (b2_n0 hp2)).1 rfl ?_
                            refine g_iload X16 K (q := 519) at_517 rfl rfl ?_
                            refine g_iload X16 K (q := 521) at_519 rfl rfl ?_
                            by_cases hc2 : s0 = s2
                            · refine g_icN X16 K (q := 524) at_521 (teq hc2).2 rfl ?_
                              refine g_iconst X16 K (q := 525) (v := (1 : Int32)) at_524 (by decide) rfl ?_
                              refine g_goto X16 K (q := 529) at_525 (by decide) (by decide) ?_
                              exact j_529 T16 _ _ X16 N16 e16 (b2_1 (by first | assumption | exact ⟨by assumption, by assumption⟩ | exact Or.inl (by assumption) | exact Or.inr (Or.inl (by assumption)) | exact Or.inr (Or.inr (by assumption)) | exact Or.inl ⟨by assumption, by assumption⟩ | exact Or.inr (Or.inl ⟨by assumption, by assumption⟩) | exact Or.inr (Or.inr ⟨by assumption, by assumption⟩)))
                            · refine g_icY X16 K (q := 528) at_521 (feq hc2).2 (by decide) (by decide) ?_
                              refine g_iconst X16 K (q := 529) (v := (0 : Int32)) at_528 (by decide) rfl ?_
                              exact j_529 T16 _ _ X16 N16 e16 (b2_0 (by rintro ⟨q1, q2⟩ <;> contradiction))
                          · refine g_ifY X16 K (q := 528) at_514 (teq (b2_z hp2)).1 (by decide) (by decide) ?_
                            refine g_iconst X16 K (q := 529) (v := (0 : Int32)) at_528 (by decide) rfl ?_
                            exact j_529 T16 _ _ X16 N16 e16 (b2_0 (by rintro ⟨q1, q2⟩ <;> contradiction))
                        refine g_iload X15 K (q := 491) at_489 rfl rfl ?_
                        by_cases hp3 : (2 : Int32) < kk ∧ (¬ (s0 = s2 ∧ f0 = f2) ∧ ¬ (s1 = s2 ∧ f1 = f2))
                        · refine g_ifN X15 K (q := 494) at_491 (feq (b2_n0 hp3)).1 rfl ?_
                          refine g_iload X15 K (q := 496) at_494 rfl rfl ?_
                          refine g_iload X15 K (q := 498) at_496 rfl rfl ?_
                          by_cases hc3 : s2 = s1
                          · refine g_icN X15 K (q := 501) at_498 (teq hc3).2 rfl ?_
                            refine g_iconst X15 K (q := 502) (v := (1 : Int32)) at_501 (by decide) rfl ?_
                            refine g_goto X15 K (q := 506) at_502 (by decide) (by decide) ?_
                            exact j_506 T15 _ _ X15 N15 e15 (b2_1 (by first | assumption | exact ⟨by assumption, by assumption⟩ | exact Or.inl (by assumption) | exact Or.inr (Or.inl (by assumption)) | exact Or.inr (Or.inr (by assumption)) | exact Or.inl ⟨by assumption, by assumption⟩ | exact Or.inr (Or.inl ⟨by assumption, by assumption⟩) | exact Or.inr (Or.inr ⟨by assumption, by assumption⟩)))
                          · refine g_icY X15 K (q := 505) at_498 (feq hc3).2 (by decide) (by decide) ?_
                            refine g_iconst X15 K (q := 506) (v := (0 : Int32)) at_505 (by decide) rfl ?_
                            exact j_506 T15 _ _ X15 N15 e15 (b2_0 (by rintro ⟨q1, q2⟩ <;> contradiction))
                        · refine g_ifY X15 K (q := 505) at_491 (teq (b2_z hp3)).1 (by decide) (by decide) ?_
                          refine g_iconst X15 K (q := 506) (v := (0 : Int32)) at_505 (by decide) rfl ?_
                          exact j_506 T15 _ _ X15 N15 e15 (b2_0 (by rintro ⟨q1, q2⟩ <;> contradiction))
                      refine g_iload X13 K (q := 465) at_463 rfl rfl ?_
                      by_cases hp4 : (0 : Int32) < kk
                      · refine g_ifN X13 K (q := 468) at_465 (feq (b2_n0 hp4)).1 rfl ?_
                        refine g_iload X13 K (q := 470) at_468 rfl rfl ?_
                        refine g_iload X13 K (q := 472) at_470 rfl rfl ?_
                        by_cases hc4 : s0 = s1
                        · refine g_icN X13 K (q := 475) at_472 (teq hc4).2 rfl ?_
                          refine g_iconst X13 K (q := 476) (v := (1 : Int32)) at_475 (by decide) rfl ?_
                          refine g_goto X13 K (q := 480) at_476 (by decide) (by decide) ?_
                          exact j_480 T13 _ _ X13 N13 e13 (b2_1 (by first | assumption | exact ⟨by assumption, by assumption⟩ | exact Or.inl (by assumption) | exact Or.inr (Or.inl (by assumption)) | exact Or.inr (Or.inr (by assumption)) | exact Or.inl ⟨by assumption, by assumption⟩ | exact Or.inr (Or.inl ⟨by assumption, by assumption⟩) | exact Or.inr (Or.inr ⟨by assumption, by assumption⟩)))
                        · refine g_icY X13 K (q := 479) at_472 (feq hc4).2 (by decide) (by decide) ?_
                          refine g_iconst X13 K (q := 480) (v := (0 : Int32)) at_479 (by decide) rfl ?_
                          exact j_480 T13 _ _ X13 N13 e13 (b2_0 (by rintro ⟨q1, q2⟩ <;> contradiction))
                      · refine g_ifY X13 K (q := 479) at_465 (teq (b2_z hp4)).1 (by decide) (by decide) ?_
                        refine g_iconst X13 K (q := 480) (v := (0 : Int32)) at_479 (by decide) rfl ?_
                        exact j_480 T13 _ _ X13 N13 e13 (b2_0 (by rintro ⟨q1, q2⟩ <;> contradiction))
                    refine g_iload X12 K (q := 442) at_440 rfl rfl ?_
                    by_cases hp5 : (2 : Int32) < kk ∧ (¬ (s0 = s2 ∧ f0 = f2) ∧ ¬ (s1 = s2 ∧ f1 = f2))
                    · refine g_ifN X12 K (q := 445) at_442 (feq (b2_n0 hp5)).1 rfl ?_
                      refine g_iload X12 K (q := 447) at_445 rfl rfl ?_
                      refine g_iload X12 K (q := 449) at_447 rfl rfl ?_
                      by_cases hc5 : s2 = s0
                      · refine g_icN X12 K (q := 452) at_449 (teq hc5).2 rfl ?_
                        refine g_iconst X12 K (q := 453) (v := (1 : Int32)) at_452 (by decide) rfl ?_
                        refine g_goto X12 K (q := 457) at_453 (by decide) (by decide) ?_
                        exact j_457 T12 _ _ X12 N12 e12 (b2_1 (by first | assumption | exact ⟨by assumption, by assumption⟩ | exact Or.inl (by assumption) | exact Or.inr (Or.inl (by assumption)) | exact Or.inr (Or.inr (by assumption)) | exact Or.inl ⟨by assumption, by assumption⟩ | exact Or.inr (Or.inl ⟨by assumption, by assumption⟩) | exact Or.inr (Or.inr ⟨by assumption, by assumption⟩)))
                      · refine g_icY X12 K (q := 456) at_449 (feq hc5).2 (by decide) (by decide) ?_
                        refine g_iconst X12 K (q := 457) (v := (0 : Int32)) at_456 (by decide) rfl ?_
                        exact j_457 T12 _ _ X12 N12 e12 (b2_0 (by rintro ⟨q1, q2⟩ <;> contradiction))
                    · refine g_ifY X12 K (q := 456) at_442 (teq (b2_z hp5)).1 (by decide) (by decide) ?_
                      refine g_iconst X12 K (q := 457) (v := (0 : Int32)) at_456 (by decide) rfl ?_
                      exact j_457 T12 _ _ X12 N12 e12 (b2_0 (by rintro ⟨q1, q2⟩ <;> contradiction))
                  refine g_iload X11 K (q := 421) at_419 rfl rfl ?_
                  by_cases hp6 : (1 : Int32) < kk ∧ ¬ (s0 = s1 ∧ f0 = f1)
                  · refine g_ifN X11 K (q := 424) at_421 (feq (b2_n0 hp6)).1 rfl ?_
                    refine g_iload X11 K (q := 426) at_424 rfl rfl ?_
                    refine g_iload X11 K (q := 428) at_426 rfl rfl ?_
                    by_cases hc6 : s1 = s0
                    · refine g_icN X11 K (q := 431) at_428 (teq hc6).2 rfl ?_
                      refine g_iconst X11 K (q := 432) (v := (1 : Int32)) at_431 (by decide) rfl ?_
                      refine g_goto X11 K (q := 436) at_432 (by decide) (by decide) ?_
                      exact j_436 T11 _ _ X11 N11 e11 (b2_1 (by first | assumption | exact ⟨by assumption, by assumption⟩ | exact Or.inl (by assumption) | exact Or.inr (Or.inl (by assumption)) | exact Or.inr (Or.inr (by assumption)) | exact Or.inl ⟨by assumption, by assumption⟩ | exact Or.inr (Or.inl ⟨by assumption, by assumption⟩) | exact Or.inr (Or.inr ⟨by assumption, by assumption⟩)))
                    · refine g_icY X11 K (q := 435) at_428 (feq hc6).2 (by decide) (by decide) ?_
                      refine g_iconst X11 K (q := 436) (v := (0 : Int32)) at_435 (by decide) rfl ?_
                      exact j_436 T11 _ _ X11 N11 e11 (b2_0 (by rintro ⟨q1, q2⟩ <;> contradiction))
                  · refine g_ifY X11 K (q := 435) at_421 (teq (b2_z hp6)).1 (by decide) (by decide) ?_
                    refine g_iconst X11 K (q := 436) (v := (0 : Int32)) at_435 (by decide) rfl ?_
                    exact j_436 T11 _ _ X11 N11 e11 (b2_0 (by rintro ⟨q1, q2⟩ <;> contradiction))
                refine g_iload Xj362 K (q := 366) at_364 rfl rfl ?_
                by_cases hp7 : (0 : Int32) < kk
                · refine g_ifN Xj362 K (q := 369) at_366 (feq (b2_n0 hp7)).1 rfl ?_
                  refine g_iload Xj362 K (q := 371) at_369 rfl rfl ?_
                  refine g_iload Xj362 K (q := 373) at_371 rfl rfl ?_
                  refine g_iload Xj362 K (q := 375) at_373 rfl rfl ?_
                  refine g_iload Xj362 K (q := 377) at_375 rfl rfl ?_
                  refine g_static Xj362 K (q := 380) (W := 0) (w33 H) (w34 H) (w35 H) (w36 H) (by decide) (rm5_11 l H s0 f0 s2 f2 T9.heap Ol9) ej362 rfl (argsL := [(.int s0), (.int f0), (.int s2), (.int f2)]) (rest := []) (lenOf pd_7 rfl) rfl rfl (Nat.le_of_eq rfl) at_377 (by decide) (by decide) (by decide) (by decide) rfl ?_
                  rintro T26 v26 L26 X26 ⟨rfl, N26q, e26⟩
                  have N26 := Fr.app Nj362 N26q
                  show Go p e below _ T26 (mkF m 380 #[.val (.int p0), .val (.int p1), .val (.int p2), .val (.int p3), .val (.int s0), .val (.int f0), .val (.int s1), .val (.int f1), .val (.int s2), .val (.int f2), .val (.int kk), .val (.ref b1), .val (.int (1 : Int32)), .val (.int (if (s1, f1) ∈ ([(s0, f0)] : Stk) then 0 else 1)), .val (.int (if (s2, f2) ∈ sk2 then 0 else 1)), .val (.int (1 : Int32)), .val (.int (b2 (¬ (s0 = s1 ∧ f0 = f1)))), .val (.int (b2 (¬ (s0 = s2 ∧ f0 = f2) ∧ ¬ (s1 = s2 ∧ f1 = f2)))), .val (.int (b2 ((0 : Int32) < kk))), .val (.int (b2 ((1 : Int32) < kk ∧ ¬ (s0 = s1 ∧ f0 = f1)))), .val (.int (b2 ((2 : Int32) < kk ∧ (¬ (s0 = s2 ∧ f0 = f2) ∧ ¬ (s1 = s2 ∧ f1 = f2))))), .val (.int mm), .val (.int (b2 (((0 : Int32) < kk) ∨ (((1 : Int32) < kk ∧ ¬ (s0 = s1 ∧ f0 = f1)) ∧ s1 = s0 ∧ f1 = f0) ∨ (((2 : Int32) < kk ∧ (¬ (s0 = s2 ∧ f0 = f2) ∧ ¬ (s1 = s2 ∧ f1 = f2))) ∧ s2 = s0 ∧ f2 = f0)))), .val (.int (b2 ((((0 : Int32) < kk) ∧ s0 = s1 ∧ f0 = f1) ∨ ((1 : Int32) < kk ∧ ¬ (s0 = s1 ∧ f0 = f1)) ∨ (((2 : Int32) < kk ∧ (¬ (s0 = s2 ∧ f0 = f2) ∧ ¬ (s1 = s2 ∧ f1 = f2))) ∧ s2 = s1 ∧ f2 = f1)))), .unset, .unset, .unset, .unset] [(.int (b2 (s0 = s2 ∧ f0 = f2)))])
                  by_cases hp8 : s0 = s2 ∧ f0 = f2
                  · refine g_ifY X26 K (q := 407) at_380 (feq (b2_n0 hp8)).2 (by decide) (by decide) ?_
                    refine g_iconst X26 K (q := 408) (v := (1 : Int32)) at_407 (by decide) rfl ?_
                    refine g_goto X26 K (q := 412) at_408 (by decide) (by decide) ?_
                    exact j_412 T26 _ _ X26 N26 e26 (b2_1 (by first | assumption | exact ⟨by assumption, by assumption⟩ | exact Or.inl (by assumption) | exact Or.inr (Or.inl (by assumption)) | exact Or.inr (Or.inr (by assumption)) | exact Or.inl ⟨by assumption, by assumption⟩ | exact Or.inr (Or.inl ⟨by assumption, by assumption⟩) | exact Or.inr (Or.inr ⟨by assumption, by assumption⟩)))
                  · refine g_ifN X26 K (q := 383) at_380 (teq (b2_z hp8)).2 rfl ?_
                    refine g_iload X26 K (q := 385) at_383 rfl rfl ?_
                    by_cases hp9 : (1 : Int32) < kk ∧ ¬ (s0 = s1 ∧ f0 = f1)
                    · refine g_ifN X26 K (q := 388) at_385 (feq (b2_n0 hp9)).1 rfl ?_
                      refine g_iload X26 K (q := 390) at_388 rfl rfl ?_
                      refine g_iload X26 K (q := 392) at_390 rfl rfl ?_
                      refine g_iload X26 K (q := 394) at_392 rfl rfl ?_
                      refine g_iload X26 K (q := 396) at_394 rfl rfl ?_
                      refine g_static X26 K (q := 399) (W := 0) (w33 H) (w34 H) (w35 H) (w36 H) (by decide) (rm5_11 l H s1 f1 s2 f2 T9.heap Ol9) e26 rfl (argsL := [(.int s1), (.int f1), (.int s2), (.int f2)]) (rest := []) (lenOf pd_7 rfl) rfl rfl (Nat.le_of_eq rfl) at_396 (by decide) (by decide) (by decide) (by decide) rfl ?_
                      rintro T27 v27 L27 X27 ⟨rfl, N27q, e27⟩
                      have N27 := Fr.app N26 N27q
                      show Go p e below _ T27 (mkF m 399 #[.val (.int p0), .val (.int p1), .val (.int p2), .val (.int p3), .val (.int s0), .val (.int f0), .val (.int s1), .val (.int f1), .val (.int s2), .val (.int f2), .val (.int kk), .val (.ref b1), .val (.int (1 : Int32)), .val (.int (if (s1, f1) ∈ ([(s0, f0)] : Stk) then 0 else 1)), .val (.int (if (s2, f2) ∈ sk2 then 0 else 1)), .val (.int (1 : Int32)), .val (.int (b2 (¬ (s0 = s1 ∧ f0 = f1)))), .val (.int (b2 (¬ (s0 = s2 ∧ f0 = f2) ∧ ¬ (s1 = s2 ∧ f1 = f2)))), .val (.int (b2 ((0 : Int32) < kk))), .val (.int (b2 ((1 : Int32) < kk ∧ ¬ (s0 = s1 ∧ f0 = f1)))), .val (.int (b2 ((2 : Int32) < kk ∧ (¬ (s0 = s2 ∧ f0 = f2) ∧ ¬ (s1 = s2 ∧ f1 = f2))))), .val (.int mm), .val (.int (b2 (((0 : Int32) < kk) ∨ (((1 : Int32) < kk ∧ ¬ (s0 = s1 ∧ f0 = f1)) ∧ s1 = s0 ∧ f1 = f0) ∨ (((2 : Int32) < kk ∧ (¬ (s0 = s2 ∧ f0 = f2) ∧ ¬ (s1 = s2 ∧ f1 = f2))) ∧ s2 = s0 ∧ f2 = f0)))), .val (.int (b2 ((((0 : Int32) < kk) ∧ s0 = s1 ∧ f0 = f1) ∨ ((1 : Int32) < kk ∧ ¬ (s0 = s1 ∧ f0 = f1)) ∨ (((2 : Int32) < kk ∧ (¬ (s0 = s2 ∧ f0 = f2) ∧ ¬ (s1 = s2 ∧ f1 = f2))) ∧ s2 = s1 ∧ f2 = f1)))), .unset, .unset, .unset, .unset] [(.int (b2 (s1 = s2 ∧ f1 = f2)))])
                      by_cases hp10 : s1 = s2 ∧ f1 = f2
                      · refine g_ifY X27 K (q := 407) at_399 (feq (b2_n0 hp10)).2 (by decide) (by decide) ?_
                        refine g_iconst X27 K (q := 408) (v := (1 : Int32)) at_407 (by decide) rfl ?_
                        refine g_goto X27 K (q := 412) at_408 (by decide) (by decide) ?_
                        exact j_412 T27 _ _ X27 N27 e27 (b2_1 (by first | assumption | exact ⟨by assumption, by assumption⟩ | exact Or.inl (by assumption) | exact Or.inr (Or.inl (by assumption)) | exact Or.inr (Or.inr (by assumption)) | exact Or.inl ⟨by assumption, by assumption⟩ | exact Or.inr (Or.inl ⟨by assumption, by assumption⟩) | exact Or.inr (Or.inr ⟨by assumption, by assumption⟩)))
                      · refine g_ifN X27 K (q := 402) at_399 (teq (b2_z hp10)).2 rfl ?_
                        refine g_iload X27 K (q := 404) at_402 rfl rfl ?_
                        by_cases hp11 : (2 : Int32) < kk ∧ (¬ (s0 = s2 ∧ f0 = f2) ∧ ¬ (s1 = s2 ∧ f1 = f2))
                        · refine g_ifN X27 K (q := 407) at_404 (feq (b2_n0 hp11)).1 rfl ?_
                          refine g_iconst X27 K (q := 408) (v := (1 : Int32)) at_407 (by decide) rfl ?_
                          refine g_goto X27 K (q := 412) at_408 (by decide) (by decide) ?_
                          exact j_412 T27 _ _ X27 N27 e27 (b2_1 (by first | assumption | exact ⟨by assumption, by assumption⟩ | exact Or.inl (by assumption) | exact Or.inr (Or.inl (by assumption)) | exact Or.inr (Or.inr (by assumption)) | exact Or.inl ⟨by assumption, by assumption⟩ | exact Or.inr (Or.inl ⟨by assumption, by assumption⟩) | exact Or.inr (Or.inr ⟨by assumption, by assumption⟩)))
                        · refine g_ifY X27 K (q := 411) at_404 (teq (b2_z hp11)).1 (by decide) (by decide) ?_
                          refine g_iconst X27 K (q := 412) (v := (0 : Int32)) at_411 (by decide) rfl ?_
                          exact j_412 T27 _ _ X27 N27 e27 (b2_0 (by rintro (⟨q1, q2⟩ | ⟨q1, q2⟩ | q) <;> contradiction))
                    · refine g_ifY X26 K (q := 402) at_385 (teq (b2_z hp9)).1 (by decide) (by decide) ?_
                      refine g_iload X26 K (q := 404) at_402 rfl rfl ?_
                      by_cases hp12 : (2 : Int32) < kk ∧ (¬ (s0 = s2 ∧ f0 = f2) ∧ ¬ (s1 = s2 ∧ f1 = f2))
                      · refine g_ifN X26 K (q := 407) at_404 (feq (b2_n0 hp12)).1 rfl ?_
                        refine g_iconst X26 K (q := 408) (v := (1 : Int32)) at_407 (by decide) rfl ?_
                        refine g_goto X26 K (q := 412) at_408 (by decide) (by decide) ?_
                        exact j_412 T26 _ _ X26 N26 e26 (b2_1 (by first | assumption | exact ⟨by assumption, by assumption⟩ | exact Or.inl (by assumption) | exact Or.inr (Or.inl (by assumption)) | exact Or.inr (Or.inr (by assumption)) | exact Or.inl ⟨by assumption, by assumption⟩ | exact Or.inr (Or.inl ⟨by assumption, by assumption⟩) | exact Or.inr (Or.inr ⟨by assumption, by assumption⟩)))
                      · refine g_ifY X26 K (q := 411) at_404 (teq (b2_z hp12)).1 (by decide) (by decide) ?_
                        refine g_iconst X26 K (q := 412) (v := (0 : Int32)) at_411 (by decide) rfl ?_
                        exact j_412 T26 _ _ X26 N26 e26 (b2_0 (by rintro (⟨q1, q2⟩ | ⟨q1, q2⟩ | q) <;> contradiction))
                · refine g_ifY Xj362 K (q := 383) at_366 (teq (b2_z hp7)).1 (by decide) (by decide) ?_
                  refine g_iload Xj362 K (q := 385) at_383 rfl rfl ?_
                  by_cases hp13 : (1 : Int32) < kk ∧ ¬ (s0 = s1 ∧ f0 = f1)
                  · refine g_ifN Xj362 K (q := 388) at_385 (feq (b2_n0 hp13)).1 rfl ?_
                    refine g_iload Xj362 K (q := 390) at_388 rfl rfl ?_
                    refine g_iload Xj362 K (q := 392) at_390 rfl rfl ?_
                    refine g_iload Xj362 K (q := 394) at_392 rfl rfl ?_
                    refine g_iload Xj362 K (q := 396) at_394 rfl rfl ?_
                    refine g_static Xj362 K (q := 399) (W := 0) (w33 H) (w34 H) (w35 H) (w36 H) (by decide) (rm5_11 l H s1 f1 s2 f2 T9.heap Ol9) ej362 rfl (argsL := [(.int s1), (.int f1), (.int s2), (.int f2)]) (rest := []) (lenOf pd_7 rfl) rfl rfl (Nat.le_of_eq rfl) at_396 (by decide) (by decide) (by decide) (by decide) rfl ?_
                    rintro T28 v28 L28 X28 ⟨rfl, N28q, e28⟩
                    have N28 := Fr.app Nj362 N28q
                    show Go p e below _ T28 (mkF m 399 #[.val (.int p0), .val (.int p1), .val (.int p2), .val (.int p3), .val (.int s0), .val (.int f0), .val (.int s1), .val (.int f1), .val (.int s2), .val (.int f2), .val (.int kk), .val (.ref b1), .val (.int (1 : Int32)), .val (.int (if (s1, f1) ∈ ([(s0, f0)] : Stk) then 0 else 1)), .val (.int (if (s2, f2) ∈ sk2 then 0 else 1)), .val (.int (1 : Int32)), .val (.int (b2 (¬ (s0 = s1 ∧ f0 = f1)))), .val (.int (b2 (¬ (s0 = s2 ∧ f0 = f2) ∧ ¬ (s1 = s2 ∧ f1 = f2)))), .val (.int (b2 ((0 : Int32) < kk))), .val (.int (b2 ((1 : Int32) < kk ∧ ¬ (s0 = s1 ∧ f0 = f1)))), .val (.int (b2 ((2 : Int32) < kk ∧ (¬ (s0 = s2 ∧ f0 = f2) ∧ ¬ (s1 = s2 ∧ f1 = f2))))), .val (.int mm), .val (.int (b2 (((0 : Int32) < kk) ∨ (((1 : Int32) < kk ∧ ¬ (s0 = s1 ∧ f0 = f1)) ∧ s1 = s0 ∧ f1 = f0) ∨ (((2 : Int32) < kk ∧ (¬ (s0 = s2 ∧ f0 = f2) ∧ ¬ (s1 = s2 ∧ f1 = f2))) ∧ s2 = s0 ∧ f2 = f0)))), .val (.int (b2 ((((0 : Int32) < kk) ∧ s0 = s1 ∧ f0 = f1) ∨ ((1 : Int32) < kk ∧ ¬ (s0 = s1 ∧ f0 = f1)) ∨ (((2 : Int32) < kk ∧ (¬ (s0 = s2 ∧ f0 = f2) ∧ ¬ (s1 = s2 ∧ f1 = f2))) ∧ s2 = s1 ∧ f2 = f1)))), .unset, .unset, .unset, .unset] [(.int (b2 (s1 = s2 ∧ f1 = f2)))])
                    by_cases hp14 : s1 = s2 ∧ f1 = f2
                    · refine g_ifY X28 K (q := 407) at_399 (feq (b2_n0 hp14)).2 (by decide) (by decide) ?_
                      refine g_iconst X28 K (q := 408) (v := (1 : Int32)) at_407 (by decide) rfl ?_
                      refine g_goto X28 K (q := 412) at_408 (by decide) (by decide) ?_
                      exact j_412 T28 _ _ X28 N28 e28 (b2_1 (by first | assumption | exact ⟨by assumption, by assumption⟩ | exact Or.inl (by assumption) | exact Or.inr (Or.inl (by assumption)) | exact Or.inr (Or.inr (by assumption)) | exact Or.inl ⟨by assumption, by assumption⟩ | exact Or.inr (Or.inl ⟨by assumption, by assumption⟩) | exact Or.inr (Or.inr ⟨by assumption, by assumption⟩)))
                    · refine g_ifN X28 K (q := 402) at_399 (teq (b2_z hp14)).2 rfl ?_
                      refine g_iload X28 K (q := 404) at_402 rfl rfl ?_
                      by_cases hp15 : (2 : Int32) < kk ∧ (¬ (s0 = s2 ∧ f0 = f2) ∧ ¬ (s1 = s2 ∧ f1 = f2))
                      · refine g_ifN X28 K (q := 407) at_404 (feq (b2_n0 hp15)).1 rfl ?_
                        refine g_iconst X28 K (q := 408) (v := (1 : Int32)) at_407 (by decide) rfl ?_
                        refine g_goto X28 K (q := 412) at_408 (by decide) (by decide) ?_
                        exact j_412 T28 _ _ X28 N28 e28 (b2_1 (by first | assumption | exact ⟨by assumption, by assumption⟩ | exact Or.inl (by assumption) | exact Or.inr (Or.inl (by assumption)) | exact Or.inr (Or.inr (by assumption)) | exact Or.inl ⟨by assumption, by assumption⟩ | exact Or.inr (Or.inl ⟨by assumption, by assumption⟩) | exact Or.inr (Or.inr ⟨by assumption, by assumption⟩)))
                      · refine g_ifY X28 K (q := 411) at_404 (teq (b2_z hp15)).1 (by decide) (by decide) ?_
                        refine g_iconst X28 K (q := 412) (v := (0 : Int32)) at_411 (by decide) rfl ?_
                        exact j_412 T28 _ _ X28 N28 e28 (b2_0 (by rintro (⟨q1, q2⟩ | ⟨q1, q2⟩ | q) <;> contradiction))
                  · refine g_ifY Xj362 K (q := 402) at_385 (teq (b2_z hp13)).1 (by decide) (by decide) ?_
                    refine g_iload Xj362 K (q := 404) at_402 rfl rfl ?_
                    by_cases hp16 : (2 : Int32) < kk ∧ (¬ (s0 = s2 ∧ f0 = f2) ∧ ¬ (s1 = s2 ∧ f1 = f2))
                    · refine g_ifN Xj362 K (q := 407) at_404 (feq (b2_n0 hp16)).1 rfl ?_
                      refine g_iconst Xj362 K (q := 408) (v := (1 : Int32)) at_407 (by decide) rfl ?_
                      refine g_goto Xj362 K (q := 412) at_408 (by decide) (by decide) ?_
                      exact j_412 Tj362 _ _ Xj362 Nj362 ej362 (b2_1 (by first | assumption | exact ⟨by assumption, by assumption⟩ | exact Or.inl (by assumption) | exact Or.inr (Or.inl (by assumption)) | exact Or.inr (Or.inr (by assumption)) | exact Or.inl ⟨by assumption, by assumption⟩ | exact Or.inr (Or.inl ⟨by assumption, by assumption⟩) | exact Or.inr (Or.inr ⟨by assumption, by assumption⟩)))
                    · refine g_ifY Xj362 K (q := 411) at_404 (teq (b2_z hp16)).1 (by decide) (by decide) ?_
                      refine g_iconst Xj362 K (q := 412) (v := (0 : Int32)) at_411 (by decide) rfl ?_
                      exact j_412 Tj362 _ _ Xj362 Nj362 ej362 (b2_0 (by rintro (⟨q1, q2⟩ | ⟨q1, q2⟩ | q) <;> contradiction))
              refine g_iload Xj312 K (q := 316) at_314 rfl rfl ?_
              by_cases hp17 : (0 : Int32) < kk
              · refine g_ifN Xj312 K (q := 319) at_316 (feq (b2_n0 hp17)).1 rfl ?_
                refine g_iload Xj312 K (q := 321) at_319 rfl rfl ?_
                refine g_iload Xj312 K (q := 323) at_321 rfl rfl ?_
                refine g_iload Xj312 K (q := 325) at_323 rfl rfl ?_
                refine g_iload Xj312 K (q := 327) at_325 rfl rfl ?_
                refine g_static Xj312 K (q := 330) (W := 0) (w33 H) (w34 H) (w35 H) (w36 H) (by decide) (rm5_11 l H s0 f0 s1 f1 T9.heap Ol9) ej312 rfl (argsL := [(.int s0), (.int f0), (.int s1), (.int f1)]) (rest := []) (lenOf pd_7 rfl) rfl rfl (Nat.le_of_eq rfl) at_327 (by decide) (by decide) (by decide) (by decide) rfl ?_
                rintro T29 v29 L29 X29 ⟨rfl, N29q, e29⟩
                have N29 := Fr.app Nj312 N29q
                show Go p e below _ T29 (mkF m 330 #[.val (.int p0), .val (.int p1), .val (.int p2), .val (.int p3), .val (.int s0), .val (.int f0), .val (.int s1), .val (.int f1), .val (.int s2), .val (.int f2), .val (.int kk), .val (.ref b1), .val (.int (1 : Int32)), .val (.int (if (s1, f1) ∈ ([(s0, f0)] : Stk) then 0 else 1)), .val (.int (if (s2, f2) ∈ sk2 then 0 else 1)), .val (.int (1 : Int32)), .val (.int (b2 (¬ (s0 = s1 ∧ f0 = f1)))), .val (.int (b2 (¬ (s0 = s2 ∧ f0 = f2) ∧ ¬ (s1 = s2 ∧ f1 = f2)))), .val (.int (b2 ((0 : Int32) < kk))), .val (.int (b2 ((1 : Int32) < kk ∧ ¬ (s0 = s1 ∧ f0 = f1)))), .val (.int (b2 ((2 : Int32) < kk ∧ (¬ (s0 = s2 ∧ f0 = f2) ∧ ¬ (s1 = s2 ∧ f1 = f2))))), .val (.int mm), .val (.int (b2 (((0 : Int32) < kk) ∨ (((1 : Int32) < kk ∧ ¬ (s0 = s1 ∧ f0 = f1)) ∧ s1 = s0 ∧ f1 = f0) ∨ (((2 : Int32) < kk ∧ (¬ (s0 = s2 ∧ f0 = f2) ∧ ¬ (s1 = s2 ∧ f1 = f2))) ∧ s2 = s0 ∧ f2 = f0)))), .unset, .unset, .unset, .unset, .unset] [(.int (b2 (s0 = s1 ∧ f0 = f1)))])
                by_cases hp18 : s0 = s1 ∧ f0 = f1
                · refine g_ifY X29 K (q := 357) at_330 (feq (b2_n0 hp18)).2 (by decide) (by decide) ?_
                  refine g_iconst X29 K (q := 358) (v := (1 : Int32)) at_357 (by decide) rfl ?_
                  refine g_goto X29 K (q := 362) at_358 (by decide) (by decide) ?_
                  exact j_362 T29 _ _ X29 N29 e29 (b2_1 (by first | assumption | exact ⟨by assumption, by assumption⟩ | exact Or.inl (by assumption) | exact Or.inr (Or.inl (by assumption)) | exact Or.inr (Or.inr (by assumption)) | exact Or.inl ⟨by assumption, by assumption⟩ | exact Or.inr (Or.inl ⟨by assumption, by assumption⟩) | exact Or.inr (Or.inr ⟨by assumption, by assumption⟩)))
                · refine g_ifN X29 K (q := 333) at_330 (teq (b2_z hp18)).2 rfl ?_
                  refine g_iload X29 K (q := 335) at_333 rfl rfl ?_
                  by_cases hp19 : (1 : Int32) < kk ∧ ¬ (s0 = s1 ∧ f0 = f1)
                  · refine g_ifY X29 K (q := 357) at_335 (feq (b2_n0 hp19)).2 (by decide) (by decide) ?_
                    refine g_iconst X29 K (q := 358) (v := (1 : Int32)) at_357 (by decide) rfl ?_
                    refine g_goto X29 K (q := 362) at_358 (by decide) (by decide) ?_
                    exact j_362 T29 _ _ X29 N29 e29 (b2_1 (by first | assumption | exact ⟨by assumption, by assumption⟩ | exact Or.inl (by assumption) | exact Or.inr (Or.inl (by assumption)) | exact Or.inr (Or.inr (by assumption)) | exact Or.inl ⟨by assumption, by assumption⟩ | exact Or.inr (Or.inl ⟨by assumption, by assumption⟩) | exact Or.inr (Or.inr ⟨by assumption, by assumption⟩)))
                  · refine g_ifN X29 K (q := 338) at_335 (teq (b2_z hp19)).2 rfl ?_
                    refine g_iload X29 K (q := 340) at_338 rfl rfl ?_
                    by_cases hp20 : (2 : Int32) < kk ∧ (¬ (s0 = s2 ∧ f0 = f2) ∧ ¬ (s1 = s2 ∧ f1 = f2))
                    · refine g_ifN X29 K (q := 343) at_340 (feq (b2_n0 hp20)).1 rfl ?_
                      refine g_iload X29 K (q := 345) at_343 rfl rfl ?_
                      refine g_iload X29 K (q := 347) at_345 rfl rfl ?_
                      refine g_iload X29 K (q := 349) at_347 rfl rfl ?_
                      refine g_iload X29 K (q := 351) at_349 rfl rfl ?_
                      refine g_static X29 K (q := 354) (W := 0) (w33 H) (w34 H) (w35 H) (w36 H) (by decide) (rm5_11 l H s2 f2 s1 f1 T9.heap Ol9) e29 rfl (argsL := [(.int s2), (.int f2), (.int s1), (.int f1)]) (rest := []) (lenOf pd_7 rfl) rfl rfl (Nat.le_of_eq rfl) at_351 (by decide) (by decide) (by decide) (by decide) rfl ?_
                      rintro T30 v30 L30 X30 ⟨rfl, N30q, e30⟩
                      have N30 := Fr.app N29 N30q
                      show Go p e below _ T30 (mkF m 354 #[.val (.int p0), .val (.int p1), .val (.int p2), .val (.int p3), .val (.int s0), .val (.int f0), .val (.int s1), .val (.int f1), .val (.int s2), .val (.int f2), .val (.int kk), .val (.ref b1), .val (.int (1 : Int32)), .val (.int (if (s1, f1) ∈ ([(s0, f0)] : Stk) then 0 else 1)), .val (.int (if (s2, f2) ∈ sk2 then 0 else 1)), .val (.int (1 : Int32)), .val (.int (b2 (¬ (s0 = s1 ∧ f0 = f1)))), .val (.int (b2 (¬ (s0 = s2 ∧ f0 = f2) ∧ ¬ (s1 = s2 ∧ f1 = f2)))), .val (.int (b2 ((0 : Int32) < kk))), .val (.int (b2 ((1 : Int32) < kk ∧ ¬ (s0 = s1 ∧ f0 = f1)))), .val (.int (b2 ((2 : Int32) < kk ∧ (¬ (s0 = s2 ∧ f0 = f2) ∧ ¬ (s1 = s2 ∧ f1 = f2))))), .val (.int mm), .val (.int (b2 (((0 : Int32) < kk) ∨ (((1 : Int32) < kk ∧ ¬ (s0 = s1 ∧ f0 = f1)) ∧ s1 = s0 ∧ f1 = f0) ∨ (((2 : Int32) < kk ∧ (¬ (s0 = s2 ∧ f0 = f2) ∧ ¬ (s1 = s2 ∧ f1 = f2))) ∧ s2 = s0 ∧ f2 = f0)))), .unset, .unset, .unset, .unset, .unset] [(.int (b2 (s2 = s1 ∧ f2 = f1)))])
                      by_cases hp21 : s2 = s1 ∧ f2 = f1
                      · refine g_ifN X30 K (q := 357) at_354 (feq (b2_n0 hp21)).1 rfl ?_
                        refine g_iconst X30 K (q := 358) (v := (1 : Int32)) at_357 (by decide) rfl ?_
                        refine g_goto X30 K (q := 362) at_358 (by decide) (by decide) ?_
                        exact j_362 T30 _ _ X30 N30 e30 (b2_1 (by first | assumption | exact ⟨by assumption, by assumption⟩ | exact Or.inl (by assumption) | exact Or.inr (Or.inl (by assumption)) | exact Or.inr (Or.inr (by assumption)) | exact Or.inl ⟨by assumption, by assumption⟩ | exact Or.inr (Or.inl ⟨by assumption, by assumption⟩) | exact Or.inr (Or.inr ⟨by assumption, by assumption⟩)))
                      · refine g_ifY X30 K (q := 361) at_354 (teq (b2_z hp21)).1 (by decide) (by decide) ?_
                        refine g_iconst X30 K (q := 362) (v := (0 : Int32)) at_361 (by decide) rfl ?_
                        exact j_362 T30 _ _ X30 N30 e30 (b2_0 (by rintro (⟨q1, q2⟩ | q | ⟨q1, q2⟩) <;> contradiction))
                    · refine g_ifY X29 K (q := 361) at_340 (teq (b2_z hp20)).1 (by decide) (by decide) ?_
                      refine g_iconst X29 K (q := 362) (v := (0 : Int32)) at_361 (by decide) rfl ?_
                      exact j_362 T29 _ _ X29 N29 e29 (b2_0 (by rintro (⟨q1, q2⟩ | q | ⟨q1, q2⟩) <;> contradiction))
              · refine g_ifY Xj312 K (q := 333) at_316 (teq (b2_z hp17)).1 (by decide) (by decide) ?_
                refine g_iload Xj312 K (q := 335) at_333 rfl rfl ?_
                by_cases hp22 : (1 : Int32) < kk ∧ ¬ (s0 = s1 ∧ f0 = f1)
                · refine g_ifY Xj312 K (q := 357) at_335 (feq (b2_n0 hp22)).2 (by decide) (by decide) ?_
                  refine g_iconst Xj312 K (q := 358) (v := (1 : Int32)) at_357 (by decide) rfl ?_
                  refine g_goto Xj312 K (q := 362) at_358 (by decide) (by decide) ?_
                  exact j_362 Tj312 _ _ Xj312 Nj312 ej312 (b2_1 (by first | assumption | exact ⟨by assumption, by assumption⟩ | exact Or.inl (by assumption) | exact Or.inr (Or.inl (by assumption)) | exact Or.inr (Or.inr (by assumption)) | exact Or.inl ⟨by assumption, by assumption⟩ | exact Or.inr (Or.inl ⟨by assumption, by assumption⟩) | exact Or.inr (Or.inr ⟨by assumption, by assumption⟩)))
                · refine g_ifN Xj312 K (q := 338) at_335 (teq (b2_z hp22)).2 rfl ?_
                  refine g_iload Xj312 K (q := 340) at_338 rfl rfl ?_
                  by_cases hp23 : (2 : Int32) < kk ∧ (¬ (s0 = s2 ∧ f0 = f2) ∧ ¬ (s1 = s2 ∧ f1 = f2))
                  · refine g_ifN Xj312 K (q := 343) at_340 (feq (b2_n0 hp23)).1 rfl ?_
                    refine g_iload Xj312 K (q := 345) at_343 rfl rfl ?_
                    refine g_iload Xj312 K (q := 347) at_345 rfl rfl ?_
                    refine g_iload Xj312 K (q := 349) at_347 rfl rfl ?_
                    refine g_iload Xj312 K (q := 351) at_349 rfl rfl ?_
                    refine g_static Xj312 K (q := 354) (W := 0) (w33 H) (w34 H) (w35 H) (w36 H) (by decide) (rm5_11 l H s2 f2 s1 f1 T9.heap Ol9) ej312 rfl (argsL := [(.int s2), (.int f2), (.int s1), (.int f1)]) (rest := []) (lenOf pd_7 rfl) rfl rfl (Nat.le_of_eq rfl) at_351 (by decide) (by decide) (by decide) (by decide) rfl ?_
                    rintro T31 v31 L31 X31 ⟨rfl, N31q, e31⟩
                    have N31 := Fr.app Nj312 N31q
                    show Go p e below _ T31 (mkF m 354 #[.val (.int p0), .val (.int p1), .val (.int p2), .val (.int p3), .val (.int s0), .val (.int f0), .val (.int s1), .val (.int f1), .val (.int s2), .val (.int f2), .val (.int kk), .val (.ref b1), .val (.int (1 : Int32)), .val (.int (if (s1, f1) ∈ ([(s0, f0)] : Stk) then 0 else 1)), .val (.int (if (s2, f2) ∈ sk2 then 0 else 1)), .val (.int (1 : Int32)), .val (.int (b2 (¬ (s0 = s1 ∧ f0 = f1)))), .val (.int (b2 (¬ (s0 = s2 ∧ f0 = f2) ∧ ¬ (s1 = s2 ∧ f1 = f2)))), .val (.int (b2 ((0 : Int32) < kk))), .val (.int (b2 ((1 : Int32) < kk ∧ ¬ (s0 = s1 ∧ f0 = f1)))), .val (.int (b2 ((2 : Int32) < kk ∧ (¬ (s0 = s2 ∧ f0 = f2) ∧ ¬ (s1 = s2 ∧ f1 = f2))))), .val (.int mm), .val (.int (b2 (((0 : Int32) < kk) ∨ (((1 : Int32) < kk ∧ ¬ (s0 = s1 ∧ f0 = f1)) ∧ s1 = s0 ∧ f1 = f0) ∨ (((2 : Int32) < kk ∧ (¬ (s0 = s2 ∧ f0 = f2) ∧ ¬ (s1 = s2 ∧ f1 = f2))) ∧ s2 = s0 ∧ f2 = f0)))), .unset, .unset, .unset, .unset, .unset] [(.int (b2 (s2 = s1 ∧ f2 = f1)))])
                    by_cases hp24 : s2 = s1 ∧ f2 = f1
                    · refine g_ifN X31 K (q := 357) at_354 (feq (b2_n0 hp24)).1 rfl ?_
                      refine g_iconst X31 K (q := 358) (v := (1 : Int32)) at_357 (by decide) rfl ?_
                      refine g_goto X31 K (q := 362) at_358 (by decide) (by decide) ?_
                      exact j_362 T31 _ _ X31 N31 e31 (b2_1 (by first | assumption | exact ⟨by assumption, by assumption⟩ | exact Or.inl (by assumption) | exact Or.inr (Or.inl (by assumption)) | exact Or.inr (Or.inr (by assumption)) | exact Or.inl ⟨by assumption, by assumption⟩ | exact Or.inr (Or.inl ⟨by assumption, by assumption⟩) | exact Or.inr (Or.inr ⟨by assumption, by assumption⟩)))
                    · refine g_ifY X31 K (q := 361) at_354 (teq (b2_z hp24)).1 (by decide) (by decide) ?_
                      refine g_iconst X31 K (q := 362) (v := (0 : Int32)) at_361 (by decide) rfl ?_
                      exact j_362 T31 _ _ X31 N31 e31 (b2_0 (by rintro (⟨q1, q2⟩ | q | ⟨q1, q2⟩) <;> contradiction))
                  · refine g_ifY Xj312 K (q := 361) at_340 (teq (b2_z hp23)).1 (by decide) (by decide) ?_
                    refine g_iconst Xj312 K (q := 362) (v := (0 : Int32)) at_361 (by decide) rfl ?_
                    exact j_362 Tj312 _ _ Xj312 Nj312 ej312 (b2_0 (by rintro (⟨q1, q2⟩ | q | ⟨q1, q2⟩) <;> contradiction))
            refine g_iload X10 K (q := 266) at_264 rfl rfl ?_
            by_cases hp25 : (0 : Int32) < kk
            · refine g_ifY X10 K (q := 307) at_266 (feq (b2_n0 hp25)).2 (by decide) (by decide) ?_
              refine g_iconst X10 K (q := 308) (v := (1 : Int32)) at_307 (by decide) rfl ?_
              refine g_goto X10 K (q := 312) at_308 (by decide) (by decide) ?_
              exact j_312 T10 _ _ X10 N10 e10 (b2_1 (by first | assumption | exact ⟨by assumption, by assumption⟩ | exact Or.inl (by assumption) | exact Or.inr (Or.inl (by assumption)) | exact Or.inr (Or.inr (by assumption)) | exact Or.inl ⟨by assumption, by assumption⟩ | exact Or.inr (Or.inl ⟨by assumption, by assumption⟩) | exact Or.inr (Or.inr ⟨by assumption, by assumption⟩)))
            · refine g_ifN X10 K (q := 269) at_266 (teq (b2_z hp25)).2 rfl ?_
              refine g_iload X10 K (q := 271) at_269 rfl rfl ?_
              by_cases hp26 : (1 : Int32) < kk ∧ ¬ (s0 = s1 ∧ f0 = f1)
              · refine g_ifN X10 K (q := 274) at_271 (feq (b2_n0 hp26)).1 rfl ?_
                refine g_iload X10 K (q := 276) at_274 rfl rfl ?_
                refine g_iload X10 K (q := 278) at_276 rfl rfl ?_
                refine g_iload X10 K (q := 280) at_278 rfl rfl ?_
                refine g_iload X10 K (q := 282) at_280 rfl rfl ?_
                refine g_static X10 K (q := 285) (W := 0) (w33 H) (w34 H) (w35 H) (w36 H) (by decide) (rm5_11 l H s1 f1 s0 f0 T9.heap Ol9) e10 rfl (argsL := [(.int s1), (.int f1), (.int s0), (.int f0)]) (rest := []) (lenOf pd_7 rfl) rfl rfl (Nat.le_of_eq rfl) at_282 (by decide) (by decide) (by decide) (by decide) rfl ?_
                rintro T32 v32 L32 X32 ⟨rfl, N32q, e32⟩
                have N32 := Fr.app N10 N32q
                show Go p e below _ T32 (mkF m 285 #[.val (.int p0), .val (.int p1), .val (.int p2), .val (.int p3), .val (.int s0), .val (.int f0), .val (.int s1), .val (.int f1), .val (.int s2), .val (.int f2), .val (.int kk), .val (.ref b1), .val (.int (1 : Int32)), .val (.int (if (s1, f1) ∈ ([(s0, f0)] : Stk) then 0 else 1)), .val (.int (if (s2, f2) ∈ sk2 then 0 else 1)), .val (.int (1 : Int32)), .val (.int (b2 (¬ (s0 = s1 ∧ f0 = f1)))), .val (.int (b2 (¬ (s0 = s2 ∧ f0 = f2) ∧ ¬ (s1 = s2 ∧ f1 = f2)))), .val (.int (b2 ((0 : Int32) < kk))), .val (.int (b2 ((1 : Int32) < kk ∧ ¬ (s0 = s1 ∧ f0 = f1)))), .val (.int (b2 ((2 : Int32) < kk ∧ (¬ (s0 = s2 ∧ f0 = f2) ∧ ¬ (s1 = s2 ∧ f1 = f2))))), .val (.int mm), .unset, .unset, .unset, .unset, .unset, .unset] [(.int (b2 (s1 = s0 ∧ f1 = f0)))])
                by_cases hp27 : s1 = s0 ∧ f1 = f0
                · refine g_ifY X32 K (q := 307) at_285 (feq (b2_n0 hp27)).2 (by decide) (by decide) ?_
                  refine g_iconst X32 K (q := 308) (v := (1 : Int32)) at_307 (by decide) rfl ?_
                  refine g_goto X32 K (q := 312) at_308 (by decide) (by decide) ?_
                  exact j_312 T32 _ _ X32 N32 e32 (b2_1 (by first | assumption | exact ⟨by assumption, by assumption⟩ | exact Or.inl (by assumption) | exact Or.inr (Or.inl (by assumption)) | exact Or.inr (Or.inr (by assumption)) | exact Or.inl ⟨by assumption, by assumption⟩ | exact Or.inr (Or.inl ⟨by assumption, by assumption⟩) | exact Or.inr (Or.inr ⟨by assumption, by assumption⟩)))
                · refine g_ifN X32 K (q := 288) at_285 (teq (b2_z hp27)).2 rfl ?_
                  refine g_iload X32 K (q := 290) at_288 rfl rfl ?_
                  by_cases hp28 : (2 : Int32) < kk ∧ (¬ (s0 = s2 ∧ f0 = f2) ∧ ¬ (s1 = s2 ∧ f1 = f2))
                  · refine g_ifN X32 K (q := 293) at_290 (feq (b2_n0 hp28)).1 rfl ?_
                    refine g_iload X32 K (q := 295) at_293 rfl rfl ?_
                    refine g_iload X32 K (q := 297) at_295 rfl rfl ?_
                    refine g_iload X32 K (q := 299) at_297 rfl rfl ?_
                    refine g_iload X32 K (q := 301) at_299 rfl rfl ?_
                    refine g_static X32 K (q := 304) (W := 0) (w33 H) (w34 H) (w35 H) (w36 H) (by decide) (rm5_11 l H s2 f2 s0 f0 T9.heap Ol9) e32 rfl (argsL := [(.int s2), (.int f2), (.int s0), (.int f0)]) (rest := []) (lenOf pd_7 rfl) rfl rfl (Nat.le_of_eq rfl) at_301 (by decide) (by decide) (by decide) (by decide) rfl ?_
                    rintro T33 v33 L33 X33 ⟨rfl, N33q, e33⟩
                    have N33 := Fr.app N32 N33q
                    show Go p e below _ T33 (mkF m 304 #[.val (.int p0), .val (.int p1), .val (.int p2), .val (.int p3), .val (.int s0), .val (.int f0), .val (.int s1), .val (.int f1), .val (.int s2), .val (.int f2), .val (.int kk), .val (.ref b1), .val (.int (1 : Int32)), .val (.int (if (s1, f1) ∈ ([(s0, f0)] : Stk) then 0 else 1)), .val (.int (if (s2, f2) ∈ sk2 then 0 else 1)), .val (.int (1 : Int32)), .val (.int (b2 (¬ (s0 = s1 ∧ f0 = f1)))), .val (.int (b2 (¬ (s0 = s2 ∧ f0 = f2) ∧ ¬ (s1 = s2 ∧ f1 = f2)))), .val (.int (b2 ((0 : Int32) < kk))), .val (.int (b2 ((1 : Int32) < kk ∧ ¬ (s0 = s1 ∧ f0 = f1)))), .val (.int (b2 ((2 : Int32) < kk ∧ (¬ (s0 = s2 ∧ f0 = f2) ∧ ¬ (s1 = s2 ∧ f1 = f2))))), .val (.int mm), .unset, .unset, .unset, .unset, .unset, .unset] [(.int (b2 (s2 = s0 ∧ f2 = f0)))])
                    by_cases hp29 : s2 = s0 ∧ f2 = f0
                    · refine g_ifN X33 K (q := 307) at_304 (feq (b2_n0 hp29)).1 rfl ?_
                      refine g_iconst X33 K (q := 308) (v := (1 : Int32)) at_307 (by decide) rfl ?_
                      refine g_goto X33 K (q := 312) at_308 (by decide) (by decide) ?_
                      exact j_312 T33 _ _ X33 N33 e33 (b2_1 (by first | assumption | exact ⟨by assumption, by assumption⟩ | exact Or.inl (by assumption) | exact Or.inr (Or.inl (by assumption)) | exact Or.inr (Or.inr (by assumption)) | exact Or.inl ⟨by assumption, by assumption⟩ | exact Or.inr (Or.inl ⟨by assumption, by assumption⟩) | exact Or.inr (Or.inr ⟨by assumption, by assumption⟩)))
                    · refine g_ifY X33 K (q := 311) at_304 (teq (b2_z hp29)).1 (by decide) (by decide) ?_
                      refine g_iconst X33 K (q := 312) (v := (0 : Int32)) at_311 (by decide) rfl ?_
                      exact j_312 T33 _ _ X33 N33 e33 (b2_0 (by rintro (q | ⟨q1, q2⟩ | ⟨q1, q2⟩) <;> contradiction))
                  · refine g_ifY X32 K (q := 311) at_290 (teq (b2_z hp28)).1 (by decide) (by decide) ?_
                    refine g_iconst X32 K (q := 312) (v := (0 : Int32)) at_311 (by decide) rfl ?_
                    exact j_312 T32 _ _ X32 N32 e32 (b2_0 (by rintro (q | ⟨q1, q2⟩ | ⟨q1, q2⟩) <;> contradiction))
              · refine g_ifY X10 K (q := 288) at_271 (teq (b2_z hp26)).1 (by decide) (by decide) ?_
                refine g_iload X10 K (q := 290) at_288 rfl rfl ?_
                by_cases hp30 : (2 : Int32) < kk ∧ (¬ (s0 = s2 ∧ f0 = f2) ∧ ¬ (s1 = s2 ∧ f1 = f2))
                · refine g_ifN X10 K (q := 293) at_290 (feq (b2_n0 hp30)).1 rfl ?_
                  refine g_iload X10 K (q := 295) at_293 rfl rfl ?_
                  refine g_iload X10 K (q := 297) at_295 rfl rfl ?_
                  refine g_iload X10 K (q := 299) at_297 rfl rfl ?_
                  refine g_iload X10 K (q := 301) at_299 rfl rfl ?_
                  refine g_static X10 K (q := 304) (W := 0) (w33 H) (w34 H) (w35 H) (w36 H) (by decide) (rm5_11 l H s2 f2 s0 f0 T9.heap Ol9) e10 rfl (argsL := [(.int s2), (.int f2), (.int s0), (.int f0)]) (rest := []) (lenOf pd_7 rfl) rfl rfl (Nat.le_of_eq rfl) at_301 (by decide) (by decide) (by decide) (by decide) rfl ?_
                  rintro T34 v34 L34 X34 ⟨rfl, N34q, e34⟩
                  have N34 := Fr.app N10 N34q
                  show Go p e below _ T34 (mkF m 304 #[.val (.int p0), .val (.int p1), .val (.int p2), .val (.int p3), .val (.int s0), .val (.int f0), .val (.int s1), .val (.int f1), .val (.int s2), .val (.int f2), .val (.int kk), .val (.ref b1), .val (.int (1 : Int32)), .val (.int (if (s1, f1) ∈ ([(s0, f0)] : Stk) then 0 else 1)), .val (.int (if (s2, f2) ∈ sk2 then 0 else 1)), .val (.int (1 : Int32)), .val (.int (b2 (¬ (s0 = s1 ∧ f0 = f1)))), .val (.int (b2 (¬ (s0 = s2 ∧ f0 = f2) ∧ ¬ (s1 = s2 ∧ f1 = f2)))), .val (.int (b2 ((0 : Int32) < kk))), .val (.int (b2 ((1 : Int32) < kk ∧ ¬ (s0 = s1 ∧ f0 = f1)))), .val (.int (b2 ((2 : Int32) < kk ∧ (¬ (s0 = s2 ∧ f0 = f2) ∧ ¬ (s1 = s2 ∧ f1 = f2))))), .val (.int mm), .unset, .unset, .unset, .unset, .unset, .unset] [(.int (b2 (s2 = s0 ∧ f2 = f0)))])
                  by_cases hp31 : s2 = s0 ∧ f2 = f0
                  · refine g_ifN X34 K (q := 307) at_304 (feq (b2_n0 hp31)).1 rfl ?_
                    refine g_iconst X34 K (q := 308) (v := (1 : Int32)) at_307 (by decide) rfl ?_
                    refine g_goto X34 K (q := 312) at_308 (by decide) (by decide) ?_
                    exact j_312 T34 _ _ X34 N34 e34 (b2_1 (by first | assumption | exact ⟨by assumption, by assumption⟩ | exact Or.inl (by assumption) | exact Or.inr (Or.inl (by assumption)) | exact Or.inr (Or.inr (by assumption)) | exact Or.inl ⟨by assumption, by assumption⟩ | exact Or.inr (Or.inl ⟨by assumption, by assumption⟩) | exact Or.inr (Or.inr ⟨by assumption, by assumption⟩)))
                  · refine g_ifY X34 K (q := 311) at_304 (teq (b2_z hp31)).1 (by decide) (by decide) ?_
                    refine g_iconst X34 K (q := 312) (v := (0 : Int32)) at_311 (by decide) rfl ?_
                    exact j_312 T34 _ _ X34 N34 e34 (b2_0 (by rintro (q | ⟨q1, q2⟩ | ⟨q1, q2⟩) <;> contradiction))
                · refine g_ifY X10 K (q := 311) at_290 (teq (b2_z hp30)).1 (by decide) (by decide) ?_
                  refine g_iconst X10 K (q := 312) (v := (0 : Int32)) at_311 (by decide) rfl ?_
                  exact j_312 T10 _ _ X10 N10 e10 (b2_0 (by rintro (q | ⟨q1, q2⟩ | ⟨q1, q2⟩) <;> contradiction))
          refine g_iload Xj206 K (q := 210) at_208 rfl rfl ?_
          refine g_iconst Xj206 K (q := 211) (v := (2 : Int32)) at_210 (by decide) rfl ?_
          by_cases hc7 : (2 : Int32) < kk
          · refine g_icN Xj206 K (q := 214) at_211 (tlt hc7).2.2.2 rfl ?_
            refine g_iload Xj206 K (q := 216) at_214 rfl rfl ?_
            by_cases hp32 : ¬ (s0 = s2 ∧ f0 = f2) ∧ ¬ (s1 = s2 ∧ f1 = f2)
            · refine g_ifN Xj206 K (q := 219) at_216 (feq (b2_n0 hp32)).1 rfl ?_
              refine g_iconst Xj206 K (q := 220) (v := (1 : Int32)) at_219 (by decide) rfl ?_
              refine g_goto Xj206 K (q := 224) at_220 (by decide) (by decide) ?_
              exact j_224 Tj206 _ _ Xj206 Nj206 ej206 (b2_1 (by first | assumption | exact ⟨by assumption, by assumption⟩ | exact Or.inl (by assumption) | exact Or.inr (Or.inl (by assumption)) | exact Or.inr (Or.inr (by assumption)) | exact Or.inl ⟨by assumption, by assumption⟩ | exact Or.inr (Or.inl ⟨by assumption, by assumption⟩) | exact Or.inr (Or.inr ⟨by assumption, by assumption⟩)))
            · refine g_ifY Xj206 K (q := 223) at_216 (teq (b2_z hp32)).1 (by decide) (by decide) ?_
              refine g_iconst Xj206 K (q := 224) (v := (0 : Int32)) at_223 (by decide) rfl ?_
              exact j_224 Tj206 _ _ Xj206 Nj206 ej206 (b2_0 (by rintro ⟨q1, q2⟩ <;> contradiction))
          · refine g_icY Xj206 K (q := 223) at_211 (flt hc7).2.2.2 (by decide) (by decide) ?_
            refine g_iconst Xj206 K (q := 224) (v := (0 : Int32)) at_223 (by decide) rfl ?_
            exact j_224 Tj206 _ _ Xj206 Nj206 ej206 (b2_0 (by rintro ⟨q1, q2⟩ <;> contradiction))
        refine g_iload Xj188 K (q := 192) at_190 rfl rfl ?_
        refine g_iconst Xj188 K (q := 193) (v := (1 : Int32)) at_192 (by decide) rfl ?_
        by_cases hc8 : (1 : Int32) < kk
        · refine g_icN Xj188 K (q := 196) at_193 (tlt hc8).2.2.2 rfl ?_
          refine g_iload Xj188 K (q := 198) at_196 rfl rfl ?_
          by_cases hp33 : ¬ (s0 = s1 ∧ f0 = f1)
          · refine g_ifN Xj188 K (q := 201) at_198 (feq (b2_n0 hp33)).1 rfl ?_
            refine g_iconst Xj188 K (q := 202) (v := (1 : Int32)) at_201 (by decide) rfl ?_
            refine g_goto Xj188 K (q := 206) at_202 (by decide) (by decide) ?_
            exact j_206 Tj188 _ _ Xj188 Nj188 ej188 (b2_1 (by first | assumption | exact ⟨by assumption, by assumption⟩ | exact Or.inl (by assumption) | exact Or.inr (Or.inl (by assumption)) | exact Or.inr (Or.inr (by assumption)) | exact Or.inl ⟨by assumption, by assumption⟩ | exact Or.inr (Or.inl ⟨by assumption, by assumption⟩) | exact Or.inr (Or.inr ⟨by assumption, by assumption⟩)))
          · refine g_ifY Xj188 K (q := 205) at_198 (teq (b2_z hp33)).1 (by decide) (by decide) ?_
            refine g_iconst Xj188 K (q := 206) (v := (0 : Int32)) at_205 (by decide) rfl ?_
            exact j_206 Tj188 _ _ Xj188 Nj188 ej188 (b2_0 (by rintro ⟨q1, q2⟩ <;> contradiction))
        · refine g_icY Xj188 K (q := 205) at_193 (flt hc8).2.2.2 (by decide) (by decide) ?_
          refine g_iconst Xj188 K (q := 206) (v := (0 : Int32)) at_205 (by decide) rfl ?_
          exact j_206 Tj188 _ _ Xj188 Nj188 ej188 (b2_0 (by rintro ⟨q1, q2⟩ <;> contradiction))
      refine g_iload Xj148 K (q := 175) at_173 rfl rfl ?_
      by_cases hc9 : (0 : Int32) < kk
      · refine g_ifN Xj148 K (q := 178) at_175 (tlt hc9).2.2.2 rfl ?_
        refine g_iload Xj148 K (q := 180) at_178 rfl rfl ?_
        refine g_ifN Xj148 K (q := 183) at_180 (by decide) rfl ?_
        refine g_iconst Xj148 K (q := 184) (v := (1 : Int32)) at_183 (by decide) rfl ?_
        refine g_goto Xj148 K (q := 188) at_184 (by decide) (by decide) ?_
        exact j_188 Tj148 _ _ Xj148 Nj148 ej148 (b2_1 (by first | assumption | exact ⟨by assumption, by assumption⟩ | exact Or.inl (by assumption) | exact Or.inr (Or.inl (by assumption)) | exact Or.inr (Or.inr (by assumption)) | exact Or.inl ⟨by assumption, by assumption⟩ | exact Or.inr (Or.inl ⟨by assumption, by assumption⟩) | exact Or.inr (Or.inr ⟨by assumption, by assumption⟩)))
      · refine g_ifY Xj148 K (q := 187) at_175 (flt hc9).2.2.2 (by decide) (by decide) ?_
        refine g_iconst Xj148 K (q := 188) (v := (0 : Int32)) at_187 (by decide) rfl ?_
        exact j_188 Tj148 _ _ Xj148 Nj148 ej148 (b2_0 (by rintro q <;> contradiction))
    refine g_iload Xj113 K (q := 117) at_115 rfl rfl ?_
    refine g_iload Xj113 K (q := 119) at_117 rfl rfl ?_
    refine g_iload Xj113 K (q := 121) at_119 rfl rfl ?_
    refine g_iload Xj113 K (q := 123) at_121 rfl rfl ?_
    refine g_static Xj113 K (q := 126) (W := 0) (w33 H) (w34 H) (w35 H) (w36 H) (by decide) (rm5_11 l H s0 f0 s2 f2 T5.heap Ol5) ej113 rfl (argsL := [(.int s0), (.int f0), (.int s2), (.int f2)]) (rest := []) (lenOf pd_7 rfl) rfl rfl (Nat.le_of_eq rfl) at_123 (by decide) (by decide) (by decide) (by decide) rfl ?_
    rintro T35 v35 L35 X35 ⟨rfl, N35q, e35⟩
    have N35 := Fr.app Nj113 N35q
    show Go p e below _ T35 (mkF m 126 #[.val (.int p0), .val (.int p1), .val (.int p2), .val (.int p3), .val (.int s0), .val (.int f0), .val (.int s1), .val (.int f1), .val (.int s2), .val (.int f2), .val (.int kk), .val (.ref b1), .val (.int (1 : Int32)), .val (.int (if (s1, f1) ∈ ([(s0, f0)] : Stk) then 0 else 1)), .val (.int (if (s2, f2) ∈ sk2 then 0 else 1)), .val (.int (1 : Int32)), .val (.int (b2 (¬ (s0 = s1 ∧ f0 = f1)))), .unset, .unset, .unset, .unset, .unset, .unset, .unset, .unset, .unset, .unset, .unset] [(.int (b2 (s0 = s2 ∧ f0 = f2)))])
    by_cases hp34 : s0 = s2 ∧ f0 = f2
    · refine g_ifY X35 K (q := 147) at_126 (feq (b2_n0 hp34)).2 (by decide) (by decide) ?_
      refine g_iconst X35 K (q := 148) (v := (0 : Int32)) at_147 (by decide) rfl ?_
      exact j_148 T35 _ _ X35 N35 e35 (b2_0 (by rintro ⟨q1, q2⟩ <;> contradiction))
    · refine g_ifN X35 K (q := 129) at_126 (teq (b2_z hp34)).2 rfl ?_
      refine g_iload X35 K (q := 131) at_129 rfl rfl ?_
      refine g_iload X35 K (q := 133) at_131 rfl rfl ?_
      refine g_iload X35 K (q := 135) at_133 rfl rfl ?_
      refine g_iload X35 K (q := 137) at_135 rfl rfl ?_
      refine g_static X35 K (q := 140) (W := 0) (w33 H) (w34 H) (w35 H) (w36 H) (by decide) (rm5_11 l H s1 f1 s2 f2 T5.heap Ol5) e35 rfl (argsL := [(.int s1), (.int f1), (.int s2), (.int f2)]) (rest := []) (lenOf pd_7 rfl) rfl rfl (Nat.le_of_eq rfl) at_137 (by decide) (by decide) (by decide) (by decide) rfl ?_
      rintro T36 v36 L36 X36 ⟨rfl, N36q, e36⟩
      have N36 := Fr.app N35 N36q
      show Go p e below _ T36 (mkF m 140 #[.val (.int p0), .val (.int p1), .val (.int p2), .val (.int p3), .val (.int s0), .val (.int f0), .val (.int s1), .val (.int f1), .val (.int s2), .val (.int f2), .val (.int kk), .val (.ref b1), .val (.int (1 : Int32)), .val (.int (if (s1, f1) ∈ ([(s0, f0)] : Stk) then 0 else 1)), .val (.int (if (s2, f2) ∈ sk2 then 0 else 1)), .val (.int (1 : Int32)), .val (.int (b2 (¬ (s0 = s1 ∧ f0 = f1)))), .unset, .unset, .unset, .unset, .unset, .unset, .unset, .unset, .unset, .unset, .unset] [(.int (b2 (s1 = s2 ∧ f1 = f2)))])
      by_cases hp35 : s1 = s2 ∧ f1 = f2
      · refine g_ifY X36 K (q := 147) at_140 (feq (b2_n0 hp35)).2 (by decide) (by decide) ?_
        refine g_iconst X36 K (q := 148) (v := (0 : Int32)) at_147 (by decide) rfl ?_
        exact j_148 T36 _ _ X36 N36 e36 (b2_0 (by rintro ⟨q1, q2⟩ <;> contradiction))
      · refine g_ifN X36 K (q := 143) at_140 (teq (b2_z hp35)).2 rfl ?_
        refine g_iconst X36 K (q := 144) (v := (1 : Int32)) at_143 (by decide) rfl ?_
        refine g_goto X36 K (q := 148) at_144 (by decide) (by decide) ?_
        exact j_148 T36 _ _ X36 N36 e36 (b2_1 (by first | assumption | exact ⟨by assumption, by assumption⟩ | exact Or.inl (by assumption) | exact Or.inr (Or.inl (by assumption)) | exact Or.inr (Or.inr (by assumption)) | exact Or.inl ⟨by assumption, by assumption⟩ | exact Or.inr (Or.inl ⟨by assumption, by assumption⟩) | exact Or.inr (Or.inr ⟨by assumption, by assumption⟩)))
  refine g_iload X5 K (q := 96) at_94 rfl rfl ?_
  refine g_iload X5 K (q := 98) at_96 rfl rfl ?_
  refine g_iload X5 K (q := 100) at_98 rfl rfl ?_
  refine g_iload X5 K (q := 102) at_100 rfl rfl ?_
  refine g_static X5 K (q := 105) (W := 0) (w33 H) (w34 H) (w35 H) (w36 H) (by decide) (rm5_11 l H s0 f0 s1 f1 T5.heap Ol5) rfl rfl (argsL := [(.int s0), (.int f0), (.int s1), (.int f1)]) (rest := []) (lenOf pd_7 rfl) rfl rfl (Nat.le_of_eq rfl) at_102 (by decide) (by decide) (by decide) (by decide) rfl ?_
  rintro T37 v37 L37 X37 ⟨rfl, N37q, e37⟩
  have N37 := Fr.app N5 N37q
  show Go p e below _ T37 (mkF m 105 #[.val (.int p0), .val (.int p1), .val (.int p2), .val (.int p3), .val (.int s0), .val (.int f0), .val (.int s1), .val (.int f1), .val (.int s2), .val (.int f2), .val (.int kk), .val (.ref b1), .val (.int (1 : Int32)), .val (.int (if (s1, f1) ∈ ([(s0, f0)] : Stk) then 0 else 1)), .val (.int (if (s2, f2) ∈ sk2 then 0 else 1)), .val (.int (1 : Int32)), .unset, .unset, .unset, .unset, .unset, .unset, .unset, .unset, .unset, .unset, .unset, .unset] [(.int (b2 (s0 = s1 ∧ f0 = f1)))])
  by_cases hp36 : s0 = s1 ∧ f0 = f1
  · refine g_ifY X37 K (q := 112) at_105 (feq (b2_n0 hp36)).2 (by decide) (by decide) ?_
    refine g_iconst X37 K (q := 113) (v := (0 : Int32)) at_112 (by decide) rfl ?_
    exact j_113 T37 _ _ X37 N37 e37 (b2_0 (by rintro q <;> contradiction))
  · refine g_ifN X37 K (q := 108) at_105 (teq (b2_z hp36)).2 rfl ?_
    refine g_iconst X37 K (q := 109) (v := (1 : Int32)) at_108 (by decide) rfl ?_
    refine g_goto X37 K (q := 113) at_109 (by decide) (by decide) ?_
    exact j_113 T37 _ _ X37 N37 e37 (b2_1 (by first | assumption | exact ⟨by assumption, by assumption⟩ | exact Or.inl (by assumption) | exact Or.inr (Or.inl (by assumption)) | exact Or.inr (Or.inr (by assumption)) | exact Or.inl ⟨by assumption, by assumption⟩ | exact Or.inr (Or.inl ⟨by assumption, by assumption⟩) | exact Or.inr (Or.inr ⟨by assumption, by assumption⟩)))
set_option maxRecDepth 65536 in
set_option maxHeartbeats 40000000 in
theorem comes_1 {Post : Tables → Env → Array Value → State → Outcome → State → Prop} (hpost : ∀ tb e args s v u, (limb_1_1.after args s (.returned v) u = true ∧ limb_1_2.after args s (.returned v) u = true ∧ True) → FrameEnd s (.returned v) u (Jvm.fieldLocs frame_1_writes args s ++ Jvm.arrayLocs frame_1_arrays args s ++ Jvm.staticLocs frame_1_statics s) 40 896 → Post tb e args s (.returned v) u) :
    ArmFor flags0 classFile x code maxLocals ret World_1 tables_1 room_1 Calls_1 rest_1 Pre_1 Post := by
  intro l hfl _ _ p e ha hc hk s m args below hf hA hF happ hP
  obtain ⟨hcalls, hrest, hpre⟩ := hP
  obtain ⟨-, -, -, hnamed, -, -, -, hat⟩ := (Spec.applies_iff hf).mp happ
  obtain ⟨hg, hn⟩ := and_e (Cond.before_iff.mp (show (Jvm.Cond.and given_1 narrow_1).before args s = true from hpre))
  obtain ⟨g0, hg0⟩ := and_e hg
  obtain ⟨g1, hg1⟩ := and_e hg0
  obtain ⟨g2, hg2⟩ := and_e hg1
  obtain ⟨g3, hg3⟩ := and_e hg2
  have g4 := hg3
  obtain ⟨u0, u1, u2, u3, rfl⟩ : ∃ u0 u1 u2 u3 : Value, args = #[u0, u1, u2, u3] := by
    have hs : args.size = 4 := by simpa [Cond.value, given_1] using g0
    obtain ⟨L⟩ := args
    match L, hs with
    | [u0, u1, u2, u3], _ => exact ⟨u0, u1, u2, u3, rfl⟩
  have hw := fun d (hd : d ∈ tables_1) => atoms_spec (ws := Jvm.Cond.code x code maxLocals ret :: tables_1) hat d (List.mem_cons_of_mem _ hd)
  have hfit : Fit s := fun {y c} hc i hi => by
    obtain ⟨ha, rfl⟩ := Array.getElem?_eq_some_iff.mp hc
    have q := List.all_eq_true.mp ((Array.all_eq_true_iff_forall_mem.mp hF) _ (Array.getElem_mem ha)) i (List.mem_range.mpr hi)
    simpa [Array.getElem?_eq_getElem hi] using q
  obtain ⟨i0, ei0⟩ := is_v g1
  obtain rfl : u0 = (.int i0) := Option.some.inj ei0
  obtain ⟨i1, ei1⟩ := is_v g2
  obtain rfl : u1 = (.int i1) := Option.some.inj ei1
  obtain ⟨i2, ei2⟩ := is_v g3
  obtain rfl : u2 = (.int i2) := Option.some.inj ei2
  obtain ⟨i3, ei3⟩ := is_v g4
  obtain rfl : u3 = (.int i3) := Option.some.inj ei3
  obtain ⟨n, o, h1, h2, h3, _, L, rfl, ⟨rfl, N⟩, hq⟩ := rm0 l (Z := s) ⟨hw, hn, hfit⟩ i0 i1 i2 i3 s.heap (Old.start s) p e ha hc hk s m _ below hf ((Spec.applies_iff_loose hf).mp happ).1 ⟨rfl, State.Warmed39.refl s, rfl⟩ trivial
  refine ⟨n, _, h1, h2, h3, hpost _ _ _ _ _ _ ⟨Cond.after_iff.mpr rfl, Cond.after_iff.mpr (eq_i res_at (Term.int_eval (1)) rfl), trivial⟩ ⟨hq.1, hq.2.1, (hq.2.2.sift fun y hy => Or.inr (N y hy)).mono (by decide) (by decide)⟩⟩
theorem main_1_1 : Claimed_1_1 := comes_1 fun _ _ _ _ _ _ h hF => ⟨h.1, hF⟩
theorem main_1_2 : Claimed_1_2 := comes_1 fun _ _ _ _ _ _ h hF => ⟨h.2.1, hF⟩
end Jvm.Pilot.@@N@@
namespace Jvm.Pilot.@@N@@
open Jvm Jvm.ClassFile Sem Op Lib Jvm.Free Jvm.Stand Jvm.Pilot.@@N@@.Jvm.D
/-! MADE BY PROGRAM (witnessworld.py) out of the Statement's table words and the real class files: 12 classes; the members and pool entries that the words name. The judged class is class 1, her method 3. -/
namespace start1
open Jvm.ClassFile
def u (s : String) : CpInfo := .utf8 (stringToUtf16 s)
/-- a pool by its gaps: so many unusable entries, then the entry; so many at the end -/
def gap : Nat → List CpInfo → List CpInfo
  | 0, r => r
  | n + 1, r => .unusable :: gap n r
def poolList (es : List (Nat × CpInfo)) (last : Nat) : List CpInfo := es.foldr (fun e r => gap e.1 (e.2 :: r)) (gap last [])
def pool (es : List (Nat × CpInfo)) (last : Nat) : Array CpInfo := ⟨poolList es last⟩
def fileOf (pool : Array CpInfo) (this : Nat) (attrs : Array Attribute := #[]) (ms : Array MethodInfo := #[]) (fl : Nat := 33) (sup : Nat := 0) (ifs : Array Nat := #[]) (fds : Array FieldInfo := #[]) : ClassFile where
  minorVersion := 0
  majorVersion := 65
  constantPool := pool
  accessFlags := fl
  thisClass := this
  superClass := sup
  interfaces := ifs
  fields := fds
  methods := ms
  attributes := attrs
def plain (name : String) (sup : Option ClassId) : Class where
  name := name
  kind := .ordinary
  loader := none
  accessFlags := 33
  super := sup
  interfaces := #[]
  cf := none
  fields := #[]
  methods := #[]
  instanceTypes := #[]
  staticTypes := #[]
  resolved := #[]
  callSites := []
  init := .initialized
  statics := none
  mirror := none

def pool0 : Array CpInfo := pool [(5, u "<init>"), (0, u "()V"), (1, .class_ 10), (1, u "java/lang/Object")] 113

def k0c0 : Code := { maxStack := 0, maxLocals := 1, code := object_method_1_code, exceptionTable := #[], attributes := #[] }
def k0m0 : Method := { name := "<init>", desc := "()V", sig := { parameters := [], returnType := none }, accessFlags := 1, code := some k0c0 }
/-- java/lang/Object -/
def k0 : Class := { plain "java/lang/Object" none with
  accessFlags := 33
  interfaces := #[]
  cf := some (fileOf pool0 8 #[] #[{ accessFlags := 1, nameIndex := 5, descriptorIndex := 6, attributes := #[] }] 33 0 #[] #[])
  fields := #[]
  methods := #[k0m0]
  instanceTypes := #[]
  staticTypes := #[]
  resolved := Array.replicate 124 none
  statics := none }

def pool1 : Array CpInfo := pool [(2, .class_ 4), (1, u "java/lang/Object"), (0, u "<init>"), (0, u "()V"), (0, .class_ 8), (0, u "com/example/stets/stets/automaton/BranchSets"), (0, .methodref 7 10), (0, .nameAndType 5 11), (0, u "(I)V"), (0, .methodref 7 13), (0, .nameAndType 14 15), (0, u "add"), (0, u "(II)Z"), (0, .methodref 17 18), (0, .class_ 19), (0, .nameAndType 20 21), (0, u "com/example/stets/stets/automaton/BranchSetsUndoToPinLaw"), (0, u "same"), (0, u "(IIII)Z"), (0, .methodref 17 23), (0, .nameAndType 24 25), (0, u "one"), (0, u "(Z)I"), (0, .methodref 7 27), (0, .nameAndType 28 11), (0, u "undoTo"), (0, .methodref 7 30), (0, .nameAndType 31 32), (0, u "mark"), (0, u "()I"), (0, .methodref 7 34), (0, .nameAndType 35 15), (0, u "contains"), (0, .methodref 7 37), (0, .nameAndType 38 39), (0, u "size"), (0, u "(I)I"), (3, u "law")] 2

def k1m0 : Method := { name := "<init>", desc := "()V", sig := { parameters := [], returnType := none }, accessFlags := 1, code := none }
def k1c1 : Code := { maxStack := 2, maxLocals := 4, code := method_2_code, exceptionTable := #[], attributes := #[] }
def k1m1 : Method := { name := "same", desc := "(IIII)Z", sig := { parameters := [.int, .int, .int, .int], returnType := some .boolean }, accessFlags := 10, code := some k1c1 }
def k1c2 : Code := { maxStack := 1, maxLocals := 1, code := method_3_code, exceptionTable := #[], attributes := #[] }
def k1m2 : Method := { name := "one", desc := "(Z)I", sig := { parameters := [.boolean], returnType := some .int }, accessFlags := 10, code := some k1c2 }
def k1c3 : Code := { maxStack := 4, maxLocals := 28, code := code, exceptionTable := #[], attributes := #[] }
def k1m3 : Method := { name := "law", desc := "(IIII)Z", sig := { parameters := [.int, .int, .int, .int], returnType := some .boolean }, accessFlags := 9, code := some k1c3 }
/-- com/example/stets/stets/automaton/BranchSetsUndoToPinLaw -/
def k1 : Class := { plain "com/example/stets/stets/automaton/BranchSetsUndoToPinLaw" (some 0) with
  accessFlags := 49
  interfaces := #[]
  cf := some (fileOf pool1 17 #[] #[{ accessFlags := 1, nameIndex := 5, descriptorIndex := 6, attributes := #[] }, { accessFlags := 10, nameIndex := 20, descriptorIndex := 21, attributes := #[] }, { accessFlags := 10, nameIndex := 24, descriptorIndex := 25, attributes := #[] }, { accessFlags := 9, nameIndex := 43, descriptorIndex := 21, attributes := #[] }] 49 2 #[] #[])
  fields := #[]
  methods := #[k1m0, k1m1, k1m2, k1m3]
  instanceTypes := #[]
  staticTypes := #[]
  resolved := Array.replicate 46 none
  statics := none }

def pool2 : Array CpInfo := pool [(1, .methodref 2 3), (0, .class_ 4), (0, .nameAndType 5 6), (0, u "java/lang/Object"), (0, u "<init>"), (0, u "()V"), (0, .fieldref 8 9), (0, .class_ 10), (0, .nameAndType 11 12), (0, u "com/example/stets/stets/automaton/BranchSets"), (0, u "flags"), (0, u "[B"), (0, .fieldref 8 14), (0, .nameAndType 15 12), (0, u "trail"), (9, .class_ 26), (0, u "[[I"), (0, .fieldref 8 28), (0, .nameAndType 29 26), (0, u "members"), (0, .fieldref 8 31), (0, .nameAndType 32 33), (0, u "sizes"), (0, u "[I"), (0, .methodref 8 35), (0, .nameAndType 36 37), (0, u "contains"), (0, u "(II)Z"), (0, .methodref 39 40), (0, .class_ 41), (0, .nameAndType 42 43), (0, u "java/lang/Math"), (0, u "max"), (0, u "(II)I"), (0, .methodref 45 46), (0, .class_ 47), (0, .nameAndType 48 49), (0, u "java/util/Arrays"), (0, u "copyOf"), (0, u "([BI)[B"), (3, .fieldref 8 54), (0, .nameAndType 55 56), (0, u "trailSize"), (0, u "I"), (4, u "(I)V"), (10, u "add"), (7, u "MAX_SETS"), (5, u "size"), (0, u "(I)I"), (5, u "mark"), (0, u "()I"), (0, u "undoTo")] 17

def k2c0 : Code := { maxStack := 3, maxLocals := 2, code := prog_6_method_1_code, exceptionTable := #[], attributes := #[] }
def k2m0 : Method := { name := "<init>", desc := "(I)V", sig := { parameters := [.int], returnType := none }, accessFlags := 0, code := some k2c0 }
def k2c1 : Code := { maxStack := 6, maxLocals := 3, code := prog_6_method_2_code, exceptionTable := #[], attributes := #[] }
def k2m1 : Method := { name := "add", desc := "(II)Z", sig := { parameters := [.int, .int], returnType := some .boolean }, accessFlags := 0, code := some k2c1 }
def k2c2 : Code := { maxStack := 3, maxLocals := 3, code := prog_6_method_3_code, exceptionTable := #[], attributes := #[] }
def k2m2 : Method := { name := "contains", desc := "(II)Z", sig := { parameters := [.int, .int], returnType := some .boolean }, accessFlags := 0, code := some k2c2 }
def k2c3 : Code := { maxStack := 2, maxLocals := 2, code := prog_6_method_4_code, exceptionTable := #[], attributes := #[] }
def k2m3 : Method := { name := "size", desc := "(I)I", sig := { parameters := [.int], returnType := some .int }, accessFlags := 0, code := some k2c3 }
def k2c4 : Code := { maxStack := 1, maxLocals := 1, code := prog_6_method_7_code, exceptionTable := #[], attributes := #[] }
def k2m4 : Method := { name := "mark", desc := "()I", sig := { parameters := [], returnType := some .int }, accessFlags := 0, code := some k2c4 }
def k2c5 : Code := { maxStack := 5, maxLocals := 4, code := prog_6_method_8_code, exceptionTable := #[], attributes := #[] }
def k2m5 : Method := { name := "undoTo", desc := "(I)V", sig := { parameters := [.int], returnType := none }, accessFlags := 0, code := some k2c5 }
/-- com/example/stets/stets/automaton/BranchSets -/
def k2 : Class := { plain "com/example/stets/stets/automaton/BranchSets" (some 0) with
  accessFlags := 48
  interfaces := #[]
  cf := some (fileOf pool2 8 #[] #[{ accessFlags := 0, nameIndex := 5, descriptorIndex := 61, attributes := #[] }, { accessFlags := 0, nameIndex := 72, descriptorIndex := 37, attributes := #[] }, { accessFlags := 0, nameIndex := 36, descriptorIndex := 37, attributes := #[] }, { accessFlags := 0, nameIndex := 86, descriptorIndex := 87, attributes := #[] }, { accessFlags := 0, nameIndex := 93, descriptorIndex := 94, attributes := #[] }, { accessFlags := 0, nameIndex := 95, descriptorIndex := 61, attributes := #[] }] 48 2 #[] #[{ accessFlags := 26, nameIndex := 80, descriptorIndex := 56, attributes := #[] }, { accessFlags := 18, nameIndex := 29, descriptorIndex := 26, attributes := #[] }, { accessFlags := 18, nameIndex := 32, descriptorIndex := 33, attributes := #[] }, { accessFlags := 2, nameIndex := 11, descriptorIndex := 12, attributes := #[] }, { accessFlags := 2, nameIndex := 15, descriptorIndex := 12, attributes := #[] }, { accessFlags := 2, nameIndex := 55, descriptorIndex := 56, attributes := #[] }])
  fields := #[{ name := "MAX_SETS", type := .int, accessFlags := 26, slot := 0, constantValue := 0 }, { name := "members", type := (.array (.array .int)), accessFlags := 18, slot := 0, constantValue := 0 }, { name := "sizes", type := (.array .int), accessFlags := 18, slot := 1, constantValue := 0 }, { name := "flags", type := (.array .byte), accessFlags := 2, slot := 2, constantValue := 0 }, { name := "trail", type := (.array .byte), accessFlags := 2, slot := 3, constantValue := 0 }, { name := "trailSize", type := .int, accessFlags := 2, slot := 4, constantValue := 0 }]
  methods := #[k2m0, k2m1, k2m2, k2m3, k2m4, k2m5]
  instanceTypes := #[(.array (.array .int)), (.array .int), (.array .byte), (.array .byte), .int]
  staticTypes := #[.int]
  resolved := Array.replicate 113 none
  statics := none }

def pool3 : Array CpInfo := pool [(1, .class_ 2), (0, u "java/lang/Math"), (1, .class_ 6), (1, u "java/lang/Object"), (0, u "<init>"), (0, u "()V"), (89, .class_ 100), (1, u "java/lang/Math$RandomNumberGeneratorHolder"), (71, u "negativeZeroFloatBits"), (0, u "J"), (2, u "negativeZeroDoubleBits"), (21, u "max"), (2, u "min"), (43, u "$assertionsDisabled"), (0, u "Z"), (88, u "(II)I"), (2, u "twoToTheDoubleScaleDown"), (0, u "D"), (4, u "twoToTheDoubleScaleUp"), (9, u "E"), (3, u "PI"), (2, u "TAU"), (2, u "DEGREES_TO_RADIANS"), (0, u "RADIANS_TO_DEGREES")] 94

def k3m0 : Method := { name := "<init>", desc := "()V", sig := { parameters := [], returnType := none }, accessFlags := 2, code := none }
def k3c1 : Code := { maxStack := 2, maxLocals := 2, code := jdk_29_method_65_code, exceptionTable := #[], attributes := #[] }
def k3m1 : Method := { name := "max", desc := "(II)I", sig := { parameters := [.int, .int], returnType := some .int }, accessFlags := 9, code := some k3c1 }
def k3c2 : Code := { maxStack := 2, maxLocals := 2, code := jdk_29_method_69_code, exceptionTable := #[], attributes := #[] }
def k3m2 : Method := { name := "min", desc := "(II)I", sig := { parameters := [.int, .int], returnType := some .int }, accessFlags := 9, code := some k3c2 }
/-- java/lang/Math -/
def k3 : Class := { plain "java/lang/Math" (some 0) with
  accessFlags := 49
  interfaces := #[]
  cf := some (fileOf pool3 1 #[.nestMembers #[98]] #[{ accessFlags := 2, nameIndex := 7, descriptorIndex := 8, attributes := #[] }, { accessFlags := 9, nameIndex := 198, descriptorIndex := 335, attributes := #[] }, { accessFlags := 9, nameIndex := 201, descriptorIndex := 335, attributes := #[] }] 49 4 #[] #[{ accessFlags := 25, nameIndex := 354, descriptorIndex := 339, attributes := #[] }, { accessFlags := 25, nameIndex := 358, descriptorIndex := 339, attributes := #[] }, { accessFlags := 25, nameIndex := 361, descriptorIndex := 339, attributes := #[] }, { accessFlags := 26, nameIndex := 364, descriptorIndex := 339, attributes := #[] }, { accessFlags := 26, nameIndex := 365, descriptorIndex := 339, attributes := #[] }, { accessFlags := 26, nameIndex := 172, descriptorIndex := 173, attributes := #[] }, { accessFlags := 26, nameIndex := 176, descriptorIndex := 173, attributes := #[] }, { accessFlags := 8, nameIndex := 344, descriptorIndex := 339, attributes := #[] }, { accessFlags := 8, nameIndex := 338, descriptorIndex := 339, attributes := #[] }, { accessFlags := 4120, nameIndex := 245, descriptorIndex := 246, attributes := #[] }])
  fields := #[{ name := "E", type := .double, accessFlags := 25, slot := 0, constantValue := 0 }, { name := "PI", type := .double, accessFlags := 25, slot := 1, constantValue := 0 }, { name := "TAU", type := .double, accessFlags := 25, slot := 2, constantValue := 0 }, { name := "DEGREES_TO_RADIANS", type := .double, accessFlags := 26, slot := 3, constantValue := 0 }, { name := "RADIANS_TO_DEGREES", type := .double, accessFlags := 26, slot := 4, constantValue := 0 }, { name := "negativeZeroFloatBits", type := .long, accessFlags := 26, slot := 5, constantValue := 0 }, { name := "negativeZeroDoubleBits", type := .long, accessFlags := 26, slot := 6, constantValue := 0 }, { name := "twoToTheDoubleScaleUp", type := .double, accessFlags := 8, slot := 7, constantValue := 0 }, { name := "twoToTheDoubleScaleDown", type := .double, accessFlags := 8, slot := 8, constantValue := 0 }, { name := "$assertionsDisabled", type := .boolean, accessFlags := 4120, slot := 9, constantValue := 0 }]
  methods := #[k3m0, k3m1, k3m2]
  instanceTypes := #[]
  staticTypes := #[.double, .double, .double, .double, .double, .long, .long, .double, .double, .boolean]
  resolved := Array.replicate 460 none
  statics := none }

def pool4 : Array CpInfo := pool [(2, .class_ 4), (1, u "java/lang/Object"), (0, u "<init>"), (0, u "()V"), (7, .class_ 16), (1, u "java/util/Arrays"), (57, .class_ 76), (1, u "java/util/Arrays$NaturalOrder"), (36, .class_ 115), (1, u "java/util/Arrays$LegacyMergeSort"), (1, u "Z"), (32, .methodref 151 152), (0, .class_ 153), (0, .nameAndType 154 155), (0, u "java/lang/System"), (0, u "arraycopy"), (0, u "(Ljava/lang/Object;ILjava/lang/Object;II)V"), (146, u "copyOf"), (1, .methodref 305 306), (0, .class_ 307), (0, .nameAndType 308 309), (0, u "java/lang/Math"), (0, u "min"), (0, u "(II)I"), (65, .class_ 376), (0, u "java/util/Arrays$ArrayList"), (68, u "$assertionsDisabled"), (269, u "MIN_ARRAY_SORT_GRAN"), (0, u "I"), (2, u "INSERTIONSORT_THRESHOLD"), (149, u "([BI)[B"), (105, .class_ 976), (0, u "java/util/Arrays$ArrayItr")] 52

def k4m0 : Method := { name := "<init>", desc := "()V", sig := { parameters := [], returnType := none }, accessFlags := 2, code := none }
def k4c1 : Code := { maxStack := 6, maxLocals := 3, code := jdk_65_method_121_code, exceptionTable := #[], attributes := #[] }
def k4m1 : Method := { name := "copyOf", desc := "([BI)[B", sig := { parameters := [(.array .byte), .int], returnType := some (.array .byte) }, accessFlags := 9, code := some k4c1 }
/-- java/util/Arrays -/
def k4 : Class := { plain "java/util/Arrays" (some 0) with
  accessFlags := 49
  interfaces := #[]
  cf := some (fileOf pool4 14 #[.nestMembers #[975, 375, 113, 74]] #[{ accessFlags := 2, nameIndex := 5, descriptorIndex := 6, attributes := #[] }, { accessFlags := 9, nameIndex := 302, descriptorIndex := 869, attributes := #[] }] 49 2 #[] #[{ accessFlags := 26, nameIndex := 715, descriptorIndex := 716, attributes := #[] }, { accessFlags := 26, nameIndex := 719, descriptorIndex := 716, attributes := #[] }, { accessFlags := 4120, nameIndex := 445, descriptorIndex := 117, attributes := #[] }])
  fields := #[{ name := "MIN_ARRAY_SORT_GRAN", type := .int, accessFlags := 26, slot := 0, constantValue := 0 }, { name := "INSERTIONSORT_THRESHOLD", type := .int, accessFlags := 26, slot := 1, constantValue := 0 }, { name := "$assertionsDisabled", type := .boolean, accessFlags := 4120, slot := 2, constantValue := 0 }]
  methods := #[k4m0, k4m1]
  instanceTypes := #[]
  staticTypes := #[.int, .int, .boolean]
  resolved := Array.replicate 1029 none
  statics := none }

def pool5 : Array CpInfo := pool [(2, .class_ 4), (1, u "java/lang/Object"), (0, u "<init>"), (0, u "()V"), (1, .class_ 10), (1, u "java/lang/System"), (0, u "allowSecurityManager"), (0, u "I"), (16, u "cons"), (0, u "Ljava/io/Console;"), (77, .class_ 110), (1, u "java/lang/System$CallersHolder"), (43, u "initialErrStream"), (0, u "Ljava/io/PrintStream;"), (19, u "security"), (0, u "Ljava/lang/SecurityManager;"), (31, .class_ 209), (0, u "java/lang/System$1"), (7, u "props"), (0, u "Ljava/util/Properties;"), (2, u "lineSeparator"), (0, u "Ljava/lang/String;"), (96, .class_ 321), (1, u "java/lang/System$LoggerFinder"), (5, .class_ 328), (0, u "java/lang/System$Logger"), (67, u "err"), (2, u "out"), (91, u "notSupportedJnuEncoding"), (15, u "in"), (17, u "initialIn"), (0, u "Ljava/io/InputStream;"), (35, u "bootLayer"), (0, u "Ljava/lang/ModuleLayer;"), (99, .class_ 664), (0, u "java/lang/System$2"), (9, u "NEVER"), (2, u "MAYBE"), (49, u "arraycopy"), (0, u "(Ljava/lang/Object;ILjava/lang/Object;II)V"), (72, .class_ 802), (0, u "java/lang/System$Logger$Level")] 31

def k5m0 : Method := { name := "<init>", desc := "()V", sig := { parameters := [], returnType := none }, accessFlags := 2, code := none }
def k5m1 : Method := { name := "arraycopy", desc := "(Ljava/lang/Object;ILjava/lang/Object;II)V", sig := { parameters := [(.object "java/lang/Object"), .int, (.object "java/lang/Object"), .int, .int], returnType := none }, accessFlags := 265, code := none }
/-- java/lang/System -/
def k5 : Class := { plain "java/lang/System" (some 0) with
  accessFlags := 49
  interfaces := #[]
  cf := some (fileOf pool5 8 #[.nestMembers #[319, 327, 801, 108, 663, 208]] #[{ accessFlags := 2, nameIndex := 5, descriptorIndex := 6, attributes := #[] }, { accessFlags := 265, nameIndex := 727, descriptorIndex := 728, attributes := #[] }] 49 2 #[] #[{ accessFlags := 25, nameIndex := 507, descriptorIndex := 526, attributes := #[] }, { accessFlags := 25, nameIndex := 399, descriptorIndex := 155, attributes := #[] }, { accessFlags := 25, nameIndex := 396, descriptorIndex := 155, attributes := #[] }, { accessFlags := 10, nameIndex := 525, descriptorIndex := 526, attributes := #[] }, { accessFlags := 26, nameIndex := 674, descriptorIndex := 12, attributes := #[] }, { accessFlags := 26, nameIndex := 677, descriptorIndex := 12, attributes := #[] }, { accessFlags := 10, nameIndex := 11, descriptorIndex := 12, attributes := #[] }, { accessFlags := 74, nameIndex := 175, descriptorIndex := 176, attributes := #[] }, { accessFlags := 10, nameIndex := 491, descriptorIndex := 222, attributes := #[] }, { accessFlags := 74, nameIndex := 29, descriptorIndex := 30, attributes := #[] }, { accessFlags := 74, nameIndex := 154, descriptorIndex := 155, attributes := #[] }, { accessFlags := 10, nameIndex := 217, descriptorIndex := 218, attributes := #[] }, { accessFlags := 10, nameIndex := 221, descriptorIndex := 222, attributes := #[] }, { accessFlags := 8, nameIndex := 562, descriptorIndex := 563, attributes := #[] }])
  fields := #[{ name := "in", type := (.object "java/io/InputStream"), accessFlags := 25, slot := 0, constantValue := 0 }, { name := "out", type := (.object "java/io/PrintStream"), accessFlags := 25, slot := 1, constantValue := 0 }, { name := "err", type := (.object "java/io/PrintStream"), accessFlags := 25, slot := 2, constantValue := 0 }, { name := "initialIn", type := (.object "java/io/InputStream"), accessFlags := 10, slot := 3, constantValue := 0 }, { name := "NEVER", type := .int, accessFlags := 26, slot := 4, constantValue := 0 }, { name := "MAYBE", type := .int, accessFlags := 26, slot := 5, constantValue := 0 }, { name := "allowSecurityManager", type := .int, accessFlags := 10, slot := 6, constantValue := 0 }, { name := "security", type := (.object "java/lang/SecurityManager"), accessFlags := 74, slot := 7, constantValue := 0 }, { name := "notSupportedJnuEncoding", type := (.object "java/lang/String"), accessFlags := 10, slot := 8, constantValue := 0 }, { name := "cons", type := (.object "java/io/Console"), accessFlags := 74, slot := 9, constantValue := 0 }, { name := "initialErrStream", type := (.object "java/io/PrintStream"), accessFlags := 74, slot := 10, constantValue := 0 }, { name := "props", type := (.object "java/util/Properties"), accessFlags := 10, slot := 11, constantValue := 0 }, { name := "lineSeparator", type := (.object "java/lang/String"), accessFlags := 10, slot := 12, constantValue := 0 }, { name := "bootLayer", type := (.object "java/lang/ModuleLayer"), accessFlags := 8, slot := 13, constantValue := 0 }]
  methods := #[k5m0, k5m1]
  instanceTypes := #[]
  staticTypes := #[(.object "java/io/InputStream"), (.object "java/io/PrintStream"), (.object "java/io/PrintStream"), (.object "java/io/InputStream"), .int, .int, .int, (.object "java/lang/SecurityManager"), (.object "java/lang/String"), (.object "java/io/Console"), (.object "java/io/PrintStream"), (.object "java/util/Properties"), (.object "java/lang/String"), (.object "java/lang/ModuleLayer")]
  resolved := Array.replicate 834 none
  statics := none }

def pool6 : Array CpInfo := pool [(1, u "java/lang/Cloneable"), (0, .class_ 1), (0, u "java/lang/Object"), (0, .class_ 3)] 3

/-- java/lang/Cloneable -/
def k6 : Class := { plain "java/lang/Cloneable" (some 0) with
  accessFlags := 1537
  interfaces := #[]
  cf := some (fileOf pool6 2 #[] #[] 1537 4 #[] #[])
  fields := #[]
  methods := #[]
  instanceTypes := #[]
  staticTypes := #[]
  resolved := Array.replicate 8 none
  statics := none }

def pool7 : Array CpInfo := pool [(1, u "java/io/Serializable"), (0, .class_ 1), (0, u "java/lang/Object"), (0, .class_ 3)] 3

/-- java/io/Serializable -/
def k7 : Class := { plain "java/io/Serializable" (some 0) with
  accessFlags := 1537
  interfaces := #[]
  cf := some (fileOf pool7 2 #[] #[] 1537 4 #[] #[])
  fields := #[]
  methods := #[]
  instanceTypes := #[]
  staticTypes := #[]
  resolved := Array.replicate 8 none
  statics := none }

/-- the primitive byte -/
def k8 : Class := { plain "byte" none with kind := .primitive 'B', accessFlags := 0x411 }
/-- [B -/
def k9 : Class := { plain "[B" (some 0) with kind := .array 8 .byte, interfaces := #[6, 7], accessFlags := 1041 }

/-- the primitive int -/
def k10 : Class := { plain "int" none with kind := .primitive 'I', accessFlags := 0x411 }
/-- [I -/
def k11 : Class := { plain "[I" (some 0) with kind := .array 10 .int, interfaces := #[6, 7], accessFlags := 1041 }

def heap : Heap := #[]
def k12 : Class := { plain "[[I" (some 0) with kind := .array 11 (.array .int), interfaces := #[6, 7], accessFlags := 1041 }
def classes : Array Class := #[k0, k1, k2, k3, k4, k5, k6, k7, k8, k9, k10, k11, k12]
def interned : List (Array UInt16 × Addr) := []
def slotsUsed : Nat := 0
def theMethod : MethodId := ⟨1, 3⟩
def args0 : Array Value := #[.int 1, .int 2, .int 3, .int 2]
def aboutOver (below : List Frame) : State where
  vm := { classes := classes, interned := interned.toArray }
  heap := heap
  slotsUsed := slotsUsed
  threads := #[{ frames := .invoking theMethod args0 :: below }]
def below0 : List Frame := [.native { method := ⟨0, 0⟩, args := #[] }]
def about1 : State := aboutOver below0
def p0 : Program := .bare "" "" ""
def e0 : Env := launch0.env 0 0 0
theorem w_frames : about1.frames = Frame.invoking theMethod args0 :: below0 := rfl
set_option maxRecDepth 65536 in
theorem w_args : argsFit about1.vm theMethod args0 = true := by decide +kernel
set_option maxRecDepth 65536 in
theorem w_heap : heapFits about1 = true := by decide +kernel
set_option maxRecDepth 65536 in
theorem w_runnable : about1.curStatus? = some .runnable := by decide +kernel
set_option maxRecDepth 65536 in
theorem w_alone : about1.alone = true := by decide +kernel
set_option maxRecDepth 65536 in
theorem w_named : about1.methodNamed? x = some theMethod := by decide +kernel
set_option maxRecDepth 65536 in
theorem w_hears : about1.hears theMethod below0 = true := by decide +kernel
set_option maxRecDepth 65536 in
theorem w_ripe : about1.ripe theMethod args0 below0 = true := by decide +kernel
theorem w_running : about1.status = .running := rfl
set_option maxRecDepth 65536 in
theorem w_room : about1.hasRoom e0.platform room_1 = true :=
  launch0.hasRoom_least _ room_1 (by decide +kernel) (by decide +kernel) (by decide +kernel) (by decide +kernel) (by decide +kernel) (by decide +kernel)
theorem allAtoms_all (ts : List Jvm.Cond) (a : Array Jvm.Value) (st : Jvm.State) : (allAtoms ts).before a st = ts.all (fun c => c.before a st) := by
  induction ts with
  | nil => rfl
  | cons c t ih =>
    show (Jvm.Cond.and c (allAtoms t)).before a st = _
    rw [Jvm.Cond.before_and, ih, List.all_cons]
def words1 : List Jvm.Cond := Jvm.Cond.code x code maxLocals ret :: tables_1
/-- a 'code' word, met by the world's own term for the bytes: nothing is compared byte by byte -/
theorem code_word {y : MethodName} {bytes : ByteArray} {mx : Nat} {rt : Option FieldType} {a : Array Value} {s : State} {m : MethodId} {meth : Method} {c : Code} (h1 : s.methodNamed? y = some m) (h2 : s.vm.method? m = some meth) (h3 : meth.code = some c) (h4 : c.code = bytes)
    (h5 : (c.maxLocals == mx && c.exceptionTable.isEmpty && decide (c.maxStack ≤ mostOperands) && decide (meth.sig.returnType = rt) && !meth.locks && decide (parseMethodDescriptor y.desc = some meth.sig)) = true) : (Jvm.Cond.code y bytes mx rt).before a s = true := by
  simp only [Bool.and_eq_true, beq_iff_eq, Bool.not_eq_true', decide_eq_true_eq] at h5
  obtain ⟨⟨⟨⟨⟨g1, g2⟩, g3⟩, g4⟩, g5⟩, g6⟩ := h5
  simp [Cond.before, Cond.holds, Cond.value, h1, h2, h3, h4, g1, g2, g3, g4, g5, g6]
def isCode : Jvm.Cond → Bool
  | .code _ _ _ _ => true
  | _ => false
theorem all_split {L : List Jvm.Cond} {P : Jvm.Cond → Bool} (h1 : L.all (fun c => isCode c || P c) = true) (h2 : ∀ c ∈ L.filter isCode, P c = true) : L.all P = true := by
  refine List.all_eq_true.mpr fun c hc => ?_
  have h := List.all_eq_true.mp h1 c hc
  rcases Bool.eq_false_or_eq_true (isCode c) with hi | hi
  · exact h2 c (List.mem_filter.mpr ⟨hc, hi⟩)
  · simpa [hi] using h
set_option maxRecDepth 65536 in
theorem w_c0 : (Jvm.Cond.code x code maxLocals ret).before args0 about1 = true := code_word (m := ⟨1, 3⟩) (meth := k1m3) (c := k1c3) (by decide +kernel) rfl rfl rfl (by decide +kernel)
set_option maxRecDepth 65536 in
theorem w_c1 : (Jvm.Cond.code ({ cls := "com/example/stets/stets/automaton/BranchSets", name := "<init>", desc := "(I)V" } : Jvm.MethodName) prog_6_method_1_code (2 : Nat) (Option.none : Option Jvm.ClassFile.FieldType)).before args0 about1 = true := code_word (m := ⟨2, 0⟩) (meth := k2m0) (c := k2c0) (by decide +kernel) rfl rfl rfl (by decide +kernel)
set_option maxRecDepth 65536 in
theorem w_c2 : (Jvm.Cond.code ({ cls := "java/lang/Object", name := "<init>", desc := "()V" } : Jvm.MethodName) object_method_1_code (1 : Nat) (Option.none : Option Jvm.ClassFile.FieldType)).before args0 about1 = true := code_word (m := ⟨0, 0⟩) (meth := k0m0) (c := k0c0) (by decide +kernel) rfl rfl rfl (by decide +kernel)
set_option maxRecDepth 65536 in
theorem w_c3 : (Jvm.Cond.code ({ cls := "com/example/stets/stets/automaton/BranchSets", name := "add", desc := "(II)Z" } : Jvm.MethodName) prog_6_method_2_code (3 : Nat) (Option.some Jvm.ClassFile.FieldType.boolean)).before args0 about1 = true := code_word (m := ⟨2, 1⟩) (meth := k2m1) (c := k2c1) (by decide +kernel) rfl rfl rfl (by decide +kernel)
set_option maxRecDepth 65536 in
theorem w_c4 : (Jvm.Cond.code ({ cls := "com/example/stets/stets/automaton/BranchSets", name := "contains", desc := "(II)Z" } : Jvm.MethodName) prog_6_method_3_code (3 : Nat) (Option.some Jvm.ClassFile.FieldType.boolean)).before args0 about1 = true := code_word (m := ⟨2, 2⟩) (meth := k2m2) (c := k2c2) (by decide +kernel) rfl rfl rfl (by decide +kernel)
set_option maxRecDepth 65536 in
theorem w_c5 : (Jvm.Cond.code ({ cls := "com/example/stets/stets/automaton/BranchSetsUndoToPinLaw", name := "same", desc := "(IIII)Z" } : Jvm.MethodName) method_2_code (4 : Nat) (Option.some Jvm.ClassFile.FieldType.boolean)).before args0 about1 = true := code_word (m := ⟨1, 1⟩) (meth := k1m1) (c := k1c1) (by decide +kernel) rfl rfl rfl (by decide +kernel)
set_option maxRecDepth 65536 in
theorem w_c6 : (Jvm.Cond.code ({ cls := "com/example/stets/stets/automaton/BranchSetsUndoToPinLaw", name := "one", desc := "(Z)I" } : Jvm.MethodName) method_3_code (1 : Nat) (Option.some Jvm.ClassFile.FieldType.int)).before args0 about1 = true := code_word (m := ⟨1, 2⟩) (meth := k1m2) (c := k1c2) (by decide +kernel) rfl rfl rfl (by decide +kernel)
set_option maxRecDepth 65536 in
theorem w_c7 : (Jvm.Cond.code ({ cls := "com/example/stets/stets/automaton/BranchSets", name := "undoTo", desc := "(I)V" } : Jvm.MethodName) prog_6_method_8_code (4 : Nat) (Option.none : Option Jvm.ClassFile.FieldType)).before args0 about1 = true := code_word (m := ⟨2, 5⟩) (meth := k2m5) (c := k2c5) (by decide +kernel) rfl rfl rfl (by decide +kernel)
set_option maxRecDepth 65536 in
theorem w_c8 : (Jvm.Cond.code ({ cls := "com/example/stets/stets/automaton/BranchSets", name := "mark", desc := "()I" } : Jvm.MethodName) prog_6_method_7_code (1 : Nat) (Option.some Jvm.ClassFile.FieldType.int)).before args0 about1 = true := code_word (m := ⟨2, 4⟩) (meth := k2m4) (c := k2c4) (by decide +kernel) rfl rfl rfl (by decide +kernel)
set_option maxRecDepth 65536 in
theorem w_c9 : (Jvm.Cond.code ({ cls := "com/example/stets/stets/automaton/BranchSets", name := "size", desc := "(I)I" } : Jvm.MethodName) prog_6_method_4_code (2 : Nat) (Option.some Jvm.ClassFile.FieldType.int)).before args0 about1 = true := code_word (m := ⟨2, 3⟩) (meth := k2m3) (c := k2c3) (by decide +kernel) rfl rfl rfl (by decide +kernel)
set_option maxRecDepth 65536 in
theorem w_c10 : (Jvm.Cond.code ({ cls := "java/lang/Math", name := "max", desc := "(II)I" } : Jvm.MethodName) jdk_29_method_65_code (2 : Nat) (Option.some Jvm.ClassFile.FieldType.int)).before args0 about1 = true := code_word (m := ⟨3, 1⟩) (meth := k3m1) (c := k3c1) (by decide +kernel) rfl rfl rfl (by decide +kernel)
set_option maxRecDepth 65536 in
theorem w_c11 : (Jvm.Cond.code ({ cls := "java/util/Arrays", name := "copyOf", desc := "([BI)[B" } : Jvm.MethodName) jdk_65_method_121_code (3 : Nat) (Option.some (Jvm.ClassFile.FieldType.array Jvm.ClassFile.FieldType.byte))).before args0 about1 = true := code_word (m := ⟨4, 1⟩) (meth := k4m1) (c := k4c1) (by decide +kernel) rfl rfl rfl (by decide +kernel)
set_option maxRecDepth 65536 in
theorem w_c12 : (Jvm.Cond.code ({ cls := "java/lang/Math", name := "min", desc := "(II)I" } : Jvm.MethodName) jdk_29_method_69_code (2 : Nat) (Option.some Jvm.ClassFile.FieldType.int)).before args0 about1 = true := code_word (m := ⟨3, 2⟩) (meth := k3m2) (c := k3c2) (by decide +kernel) rfl rfl rfl (by decide +kernel)
def codes1 : List Jvm.Cond := [Jvm.Cond.code x code maxLocals ret, Jvm.Cond.code ({ cls := "com/example/stets/stets/automaton/BranchSets", name := "<init>", desc := "(I)V" } : Jvm.MethodName) prog_6_method_1_code (2 : Nat) (Option.none : Option Jvm.ClassFile.FieldType), Jvm.Cond.code ({ cls := "java/lang/Object", name := "<init>", desc := "()V" } : Jvm.MethodName) object_method_1_code (1 : Nat) (Option.none : Option Jvm.ClassFile.FieldType), Jvm.Cond.code ({ cls := "com/example/stets/stets/automaton/BranchSets", name := "add", desc := "(II)Z" } : Jvm.MethodName) prog_6_method_2_code (3 : Nat) (Option.some Jvm.ClassFile.FieldType.boolean), Jvm.Cond.code ({ cls := "com/example/stets/stets/automaton/BranchSets", name := "contains", desc := "(II)Z" } : Jvm.MethodName) prog_6_method_3_code (3 : Nat) (Option.some Jvm.ClassFile.FieldType.boolean), Jvm.Cond.code ({ cls := "com/example/stets/stets/automaton/BranchSetsUndoToPinLaw", name := "same", desc := "(IIII)Z" } : Jvm.MethodName) method_2_code (4 : Nat) (Option.some Jvm.ClassFile.FieldType.boolean), Jvm.Cond.code ({ cls := "com/example/stets/stets/automaton/BranchSetsUndoToPinLaw", name := "one", desc := "(Z)I" } : Jvm.MethodName) method_3_code (1 : Nat) (Option.some Jvm.ClassFile.FieldType.int), Jvm.Cond.code ({ cls := "com/example/stets/stets/automaton/BranchSets", name := "undoTo", desc := "(I)V" } : Jvm.MethodName) prog_6_method_8_code (4 : Nat) (Option.none : Option Jvm.ClassFile.FieldType), Jvm.Cond.code ({ cls := "com/example/stets/stets/automaton/BranchSets", name := "mark", desc := "()I" } : Jvm.MethodName) prog_6_method_7_code (1 : Nat) (Option.some Jvm.ClassFile.FieldType.int), Jvm.Cond.code ({ cls := "com/example/stets/stets/automaton/BranchSets", name := "size", desc := "(I)I" } : Jvm.MethodName) prog_6_method_4_code (2 : Nat) (Option.some Jvm.ClassFile.FieldType.int), Jvm.Cond.code ({ cls := "java/lang/Math", name := "max", desc := "(II)I" } : Jvm.MethodName) jdk_29_method_65_code (2 : Nat) (Option.some Jvm.ClassFile.FieldType.int), Jvm.Cond.code ({ cls := "java/util/Arrays", name := "copyOf", desc := "([BI)[B" } : Jvm.MethodName) jdk_65_method_121_code (3 : Nat) (Option.some (Jvm.ClassFile.FieldType.array Jvm.ClassFile.FieldType.byte)), Jvm.Cond.code ({ cls := "java/lang/Math", name := "min", desc := "(II)I" } : Jvm.MethodName) jdk_29_method_69_code (2 : Nat) (Option.some Jvm.ClassFile.FieldType.int)]
set_option maxRecDepth 65536 in
theorem codes_eq : words1.filter isCode = codes1 := rfl
theorem w_codes : ∀ c ∈ words1.filter isCode, c.before args0 about1 = true := by
  rw [codes_eq]
  intro c hc
  simp only [codes1, List.mem_cons, List.not_mem_nil, or_false] at hc
  rcases hc with rfl | rfl | rfl | rfl | rfl | rfl | rfl | rfl | rfl | rfl | rfl | rfl | rfl
  · exact w_c0
  · exact w_c1
  · exact w_c2
  · exact w_c3
  · exact w_c4
  · exact w_c5
  · exact w_c6
  · exact w_c7
  · exact w_c8
  · exact w_c9
  · exact w_c10
  · exact w_c11
  · exact w_c12
set_option maxRecDepth 65536 in
theorem w_t1 : (words1.take 24).all (fun c => isCode c || c.before args0 about1) = true := by decide +kernel
set_option maxRecDepth 65536 in
theorem w_t2 : ((words1.drop 24).take 24).all (fun c => isCode c || c.before args0 about1) = true := by decide +kernel
set_option maxRecDepth 65536 in
theorem w_t3 : ((words1.drop 24).drop 24).all (fun c => isCode c || c.before args0 about1) = true := by decide +kernel
theorem w_tables : (allAtoms (Jvm.Cond.code x code maxLocals ret :: tables_1)).before args0 about1 = true := by
  rw [allAtoms_all]
  show words1.all (fun c => c.before args0 about1) = true
  refine all_split ?_ w_codes
  rw [← List.take_append_drop 24 words1, List.all_append, w_t1, ← List.take_append_drop 24 (words1.drop 24), List.all_append, w_t2, w_t3]
  rfl
set_option maxRecDepth 65536 in
theorem w_case : (Jvm.Cond.and given_1 narrow_1).before args0 about1 = true := by decide +kernel
theorem w_applies : (headSpec (Jvm.Cond.code x code maxLocals ret :: tables_1) room_1).applies x e0.platform about1 = true :=
  (Spec.applies_iff w_frames).mpr ⟨w_running, w_runnable, w_alone, w_named, w_hears, w_ripe, w_room, w_tables⟩
theorem atStart : AtStart classFile x code maxLocals ret World_1 tables_1 room_1 Calls_1 rest_1 Pre_1 launch0 p0 e0 about1 theMethod args0 below0 :=
  ⟨lists_1, trivial, launch0.admits_env _ _ _, launch0.least_env, fairChoices_fair.cas, fairChoices_fair.clock, w_frames, w_args, w_heap, w_applies, trivial, trivial, w_case⟩
end start1
theorem witness_1 : WitnessClaimed_1 := ⟨start1.p0, start1.e0, start1.about1, start1.theMethod, start1.args0, start1.below0, start1.atStart⟩
end Jvm.Pilot.@@N@@
