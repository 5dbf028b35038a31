import JvmDerived
import JvmDerived.Pilot.@@N@@Statement
import JvmDerived.Pilot.@@N@@Code
set_option linter.unusedVariables false
set_option linter.unusedSimpArgs false
@@BLOCK:NumsL.lean.txt@@
namespace Jvm.Pilot.@@N@@
open Jvm Jvm.ClassFile Sem Op Lib Jvm.Free Jvm.Stand Jvm.LawKit Jvm.RoadKit Bundle Jvm.Pilot.@@N@@.Jvm.D
section Own
variable {p : Program} {l : Launch} {e : Env} {R : Room} {s : State} {m : MethodId} {args : Array Value} {below : List Frame} {meth : Method} {c : Code} {T T' : State} {locs : List Loc} {cells slots : Nat} {Z : State} {a0 : Array Value} {h : Heap} {P : State → Prop} {pc q : Nat} {Ls : Array Slot} {S : List Value} {g g' : JFrame}
/-- from this state on the run comes to one of which P holds -/
def Go (p : Program) (e : Env) (below : List Frame) (P : State → Prop) (T : State) (g : JFrame) : Prop := ∃ n, Steps p.tables e below (T.setTop g) n ∧ P n
theorem Go.by_ (k : ∀ t, Steps p.tables e below (T'.setTop g') t → Steps p.tables e below (T.setTop g) t) (h : Go p e below P T' g') : Go p e below P T g := by
  obtain ⟨n, a, b⟩ := h; exact ⟨n, k n a, b⟩
theorem Go.tr (k : Steps p.tables e below (T.setTop g) (T'.setTop g')) (h : Go p e below P T' g') : Go p e below P T g := by
  obtain ⟨n, a, b⟩ := h; exact ⟨n, k.trans a, b⟩
theorem g_join (h : Go p e below P T g) (k : Go p e below P T g → Go p e below P T' g') : Go p e below P T' g' := k h
/-- what the whole body knows of its method -/
def Kt (p : Program) (Z s : State) (m : MethodId) (meth : Method) (c : Code) (y : MethodName) (bytes : ByteArray) (maxL : Nat) (ret : Option FieldType) : Prop :=
  p.tables.exec = Jvm.exec ∧ Z.Warmed39 s.vm ∧ c.code = bytes ∧ c.maxLocals = maxL ∧ s.vm.findClass y.cls = some m.cls ∧ meth.sig.returnType = ret ∧ meth.locks = false ∧ meth.name = y.name ∧ s.methodNamed? y = some m
variable {y : MethodName} {bytes : ByteArray} {maxL : Nat} {ret : Option FieldType}
theorem Kt.x (K : Kt p Z s m meth c y bytes maxL ret) : p.tables.exec = Jvm.exec := K.1
theorem Kt.z (K : Kt p Z s m meth c y bytes maxL ret) : Z.Warmed39 s.vm := K.2.1
theorem Kt.ml (K : Kt p Z s m meth c y bytes maxL ret) : c.maxLocals = maxL := K.2.2.2.1
theorem Kt.own (K : Kt p Z s m meth c y bytes maxL ret) : s.vm.findClass y.cls = some m.cls := K.2.2.2.2.1
theorem Kt.rt (K : Kt p Z s m meth c y bytes maxL ret) : meth.sig.returnType = ret := K.2.2.2.2.2.1
theorem Kt.lk (K : Kt p Z s m meth c y bytes maxL ret) : meth.locks = false := K.2.2.2.2.2.2.1
theorem Kt.nm (K : Kt p Z s m meth c y bytes maxL ret) : meth.name = y.name := K.2.2.2.2.2.2.2.1
theorem Kt.named (K : Kt p Z s m meth c y bytes maxL ret) : s.methodNamed? y = some m := K.2.2.2.2.2.2.2.2
theorem Kt.d (K : Kt p Z s m meth c y bytes maxL ret) {r : Except DecodeError (Instr × Nat)} (h : decode bytes pc = r) : decode c.code pc = r := by rw [K.2.2.1]; exact h
/-- the end of a body -/
def Done (s : State) (below : List Frame) (Q : Option Value → Heap → List Loc → Prop) (kc ks : Nat) (n : State) : Prop :=
  ∃ o, n.status = .running ∧ Ended n below o ∧ ∃ v L, o = .returned v ∧ Q v n.heap L ∧ FrameEnd s o n L kc ks
/-- a body's contract -/
def Mt (l : Launch) (Z : State) (y : MethodName) (bytes : ByteArray) (maxL : Nat) (ret : Option FieldType) (ws : List Jvm.Cond) (rm : Room) (as' : Array Value) (h0 : Heap) (Q : Option Value → Heap → List Loc → Prop) : Prop :=
  MetFree l y (head1 (Jvm.Cond.code y bytes maxL ret :: ws) rm) (fun a U => a = as' ∧ Z.Warmed39 U.vm ∧ U.heap = h0) (fun _ _ _ _ _ => True) (fun _ U o U' => ∃ v L, o = .returned v ∧ Q v U'.heap L ∧ FrameEnd U o U' L rm.cells rm.slots)
theorem g_body {ws : List Jvm.Cond} {rm : Room} {as' : Array Value} {h0 : Heap} {Q : Option Value → Heap → List Loc → Prop} (hpl : plainFor y = true)
    (H : ∀ (p : Program) (e : Env) (s : State) (m : MethodId) (below : List Frame) (meth : Method) (c : Code) (T : State), Kt p Z s m meth c y bytes maxL ret → Stand p l e rm s m as' below meth c T [] 0 0 → T.heap = h0 → Go p e below (Done s below Q rm.cells rm.slots) T (entryFrame m as' maxL)) :
    Mt l Z y bytes maxL ret ws rm as' h0 Q := by
  refine MetFree.of_bodySF hpl hisR ?_
  intro p e s m args below meth c s₁ Bd hml0 hP hK
  obtain ⟨rfl, hZ, hh⟩ := hP
  obtain ⟨n, a, o, b1, b2, b3⟩ := H p e s m below meth c s₁ ⟨Bd.exec, hZ, Bd.bytes, hml0, findClass_of_methodNamed Bd.named, Bd.returns, BodyLoose.notSynchronized Bd, (name_of_methodNamed Bd.named Bd.method).1, Bd.named⟩ (Stand.of_body Bd) (by rw [← hh, Bd.state]; rfl)
  exact ⟨n, o, a, b1, b2, b3⟩
variable {Q : Option Value → Heap → List Loc → Prop} {kc ks : Nat}
theorem g_entry (q : g = g') (h : Go p e below P T g') : Go p e below P T g := q ▸ h
/-! returns -/
theorem g_ret (X : Stand p l e R s m args below meth c T locs cells slots) (K : Kt p Z s m meth c y bytes maxL none) (hd : decode bytes pc = .ok (.return_, 1)) (hc : cells ≤ kc) (hs : slots ≤ ks) (hQ : Q none T.heap locs) : Go p e below (Done s below Q kc ks) T (mkF m pc Ls []) := by
  obtain ⟨fs, hr, hrun, hended, hW, hsame⟩ := X.leave (v := none) (fun _ => rfl) K.lk
  exact ⟨_, X.returnOut K.x K.rt (K.d hd) hr, _, hrun, hended, _, _, rfl, hQ, ⟨_, rfl⟩, hW, hsame.mono hc hs⟩
theorem g_iret (X : Stand p l e R s m args below meth c T locs cells slots) (K : Kt p Z s m meth c y bytes maxL (some .int)) {z : Int32} (hd : decode bytes pc = .ok (.ireturn, 1)) (hc : cells ≤ kc) (hs : slots ≤ ks) (hQ : Q (some (.int z)) T.heap locs) : Go p e below (Done s below Q kc ks) T (mkF m pc Ls (.int z :: S)) := by
  obtain ⟨fs, hr, hrun, hended, hW, hsame⟩ := X.leave (v := some (.int z)) (fun h => by rw [K.rt] at h; cases h) K.lk
  exact ⟨_, retOut X K.x K.rt rfl (Or.inl ⟨rfl, Or.inl rfl, z, rfl⟩) (K.d hd) hr, _, hrun, hended, _, _, rfl, hQ, ⟨_, rfl⟩, hW, hsame.mono hc hs⟩
theorem g_nret {t : FieldType} (X : Stand p l e R s m args below meth c T locs cells slots) (K : Kt p Z s m meth c y bytes maxL (some t)) (ht : t = .boolean ∨ t = .byte ∨ t = .char ∨ t = .short) {z z' : Int32} (hn : nar t z = z') (hd : decode bytes pc = .ok (.ireturn, 1)) (hc : cells ≤ kc) (hs : slots ≤ ks) (hQ : Q (some (.int z')) T.heap locs) : Go p e below (Done s below Q kc ks) T (mkF m pc Ls (.int z :: S)) := by
  subst hn
  obtain ⟨fs, hr, hrun, hended, hW, hsame⟩ := X.leave (v := some (.int (nar t z))) (fun h => by rw [K.rt] at h; cases h) K.lk
  exact ⟨_, retN X K.x K.rt ht (K.d hd) hr, _, hrun, hended, _, _, rfl, hQ, ⟨_, rfl⟩, hW, hsame.mono hc hs⟩
theorem g_lret (X : Stand p l e R s m args below meth c T locs cells slots) (K : Kt p Z s m meth c y bytes maxL (some .long)) {z : Int64} (hd : decode bytes pc = .ok (.lreturn, 1)) (hc : cells ≤ kc) (hs : slots ≤ ks) (hQ : Q (some (.long z)) T.heap locs) : Go p e below (Done s below Q kc ks) T (mkF m pc Ls (.long z :: S)) := by
  obtain ⟨fs, hr, hrun, hended, hW, hsame⟩ := X.leave (v := some (.long z)) (fun h => by rw [K.rt] at h; cases h) K.lk
  exact ⟨_, retOut X K.x K.rt rfl (Or.inr (Or.inl ⟨rfl, rfl, z, rfl⟩)) (K.d hd) hr, _, hrun, hended, _, _, rfl, hQ, ⟨_, rfl⟩, hW, hsame.mono hc hs⟩
theorem g_aret {t : FieldType} {w : Value} (X : Stand p l e R s m args below meth c T locs cells slots) (K : Kt p Z s m meth c y bytes maxL (some t)) (ht : t.isReference = true) (hw : w.isRef = true) (hn : narrow t w = w) (hd : decode bytes pc = .ok (.areturn, 1)) (hc : cells ≤ kc) (hs : slots ≤ ks) (hQ : Q (some w) T.heap locs) : Go p e below (Done s below Q kc ks) T (mkF m pc Ls (w :: S)) := by
  obtain ⟨fs, hr, hrun, hended, hW, hsame⟩ := X.leave (v := some w) (fun h => by rw [K.rt] at h; cases h) K.lk
  exact ⟨_, retOut X K.x K.rt hn (Or.inr (Or.inr (Or.inr (Or.inr ⟨rfl, ht, hw⟩)))) (K.d hd) hr, _, hrun, hended, _, _, rfl, hQ, ⟨_, rfl⟩, hW, hsame.mono hc hs⟩
/-! plain steps -/
section Plain
theorem g_iloadN (X : Stand p l e R s m args below meth c T locs cells slots) (K : Kt p Z s m meth c y bytes maxL ret) {k : Fin 4} {v : Int32} (hd : decode bytes pc = .ok (.iload_n k, 1)) (hl : Ls[k.val]? = some (.val (.int v))) (hq : pc + 1 = q) (h : Go p e below P T (mkF m q Ls (.int v :: S))) : Go p e below P T (mkF m pc Ls S) := by
  subst hq; exact Go.by_ (fun t k => XS.iloadN X.here K.x rfl (K.d hd) hl k) h
theorem g_iload (X : Stand p l e R s m args below meth c T locs cells slots) (K : Kt p Z s m meth c y bytes maxL ret) {k : Nat} {v : Int32} (hd : decode bytes pc = .ok (.iload k, 2)) (hl : Ls[k]? = some (.val (.int v))) (hq : pc + 2 = q) (h : Go p e below P T (mkF m q Ls (.int v :: S))) : Go p e below P T (mkF m pc Ls S) := by
  subst hq; exact Go.by_ (fun t k => XS.iload X.here K.x rfl (K.d hd) hl k) h
theorem g_lloadN (X : Stand p l e R s m args below meth c T locs cells slots) (K : Kt p Z s m meth c y bytes maxL ret) {k : Fin 4} {v : Int64} (hd : decode bytes pc = .ok (.lload_n k, 1)) (hl : Ls[k.val]? = some (.val (.long v))) (hq : pc + 1 = q) (h : Go p e below P T (mkF m q Ls (.long v :: S))) : Go p e below P T (mkF m pc Ls S) := by
  subst hq; exact Go.by_ (fun t k => XS.lloadN X.here K.x rfl (K.d hd) hl k) h
theorem g_lload (X : Stand p l e R s m args below meth c T locs cells slots) (K : Kt p Z s m meth c y bytes maxL ret) {k : Nat} {v : Int64} (hd : decode bytes pc = .ok (.lload k, 2)) (hl : Ls[k]? = some (.val (.long v))) (hq : pc + 2 = q) (h : Go p e below P T (mkF m q Ls (.long v :: S))) : Go p e below P T (mkF m pc Ls S) := by
  subst hq; exact Go.by_ (fun t k => XS.lload X.here K.x rfl (K.d hd) hl k) h
theorem g_aloadN (X : Stand p l e R s m args below meth c T locs cells slots) (K : Kt p Z s m meth c y bytes maxL ret) {k : Fin 4} {v : Value} (hd : decode bytes pc = .ok (.aload_n k, 1)) (hl : Ls[k.val]? = some (.val v)) (hv : v.isRef = true) (hq : pc + 1 = q) (h : Go p e below P T (mkF m q Ls (v :: S))) : Go p e below P T (mkF m pc Ls S) := by
  subst hq; exact Go.by_ (fun t k => XS.aloadN X.here K.x rfl (K.d hd) hl hv k) h
theorem g_aload (X : Stand p l e R s m args below meth c T locs cells slots) (K : Kt p Z s m meth c y bytes maxL ret) {k : Nat} {v : Value} (hd : decode bytes pc = .ok (.aload k, 2)) (hl : Ls[k]? = some (.val v)) (hv : v.isRef = true) (hq : pc + 2 = q) (h : Go p e below P T (mkF m q Ls (v :: S))) : Go p e below P T (mkF m pc Ls S) := by
  subst hq; exact Go.by_ (fun t k => XS.aload X.here K.x rfl (K.d hd) hl hv k) h
theorem g_istoreN (X : Stand p l e R s m args below meth c T locs cells slots) (K : Kt p Z s m meth c y bytes maxL ret) {k : Fin 4} {v : Int32} {L' : Array Slot} (hd : decode bytes pc = .ok (.istore_n k, 1)) (hl : storeLocals Ls k.val (.int v) = some L') (hq : pc + 1 = q) (h : Go p e below P T (mkF m q L' S)) : Go p e below P T (mkF m pc Ls (.int v :: S)) := by
  subst hq; exact Go.by_ (fun t k => XS.istoreN X.here K.x rfl (K.d hd) rfl hl k) h
theorem g_istore (X : Stand p l e R s m args below meth c T locs cells slots) (K : Kt p Z s m meth c y bytes maxL ret) {k : Nat} {v : Int32} {L' : Array Slot} (hd : decode bytes pc = .ok (.istore k, 2)) (hl : storeLocals Ls k (.int v) = some L') (hq : pc + 2 = q) (h : Go p e below P T (mkF m q L' S)) : Go p e below P T (mkF m pc Ls (.int v :: S)) := by
  subst hq; exact Go.by_ (fun t k => XS.istore X.here K.x rfl (K.d hd) rfl hl k) h
theorem g_lstoreN (X : Stand p l e R s m args below meth c T locs cells slots) (K : Kt p Z s m meth c y bytes maxL ret) {k : Fin 4} {v : Int64} {L' : Array Slot} (hd : decode bytes pc = .ok (.lstore_n k, 1)) (hl : storeLocals Ls k.val (.long v) = some L') (hq : pc + 1 = q) (h : Go p e below P T (mkF m q L' S)) : Go p e below P T (mkF m pc Ls (.long v :: S)) := by
  subst hq; exact Go.by_ (fun t k => XS.lstoreN X.here K.x rfl (K.d hd) rfl hl k) h
theorem g_lstore (X : Stand p l e R s m args below meth c T locs cells slots) (K : Kt p Z s m meth c y bytes maxL ret) {k : Nat} {v : Int64} {L' : Array Slot} (hd : decode bytes pc = .ok (.lstore k, 2)) (hl : storeLocals Ls k (.long v) = some L') (hq : pc + 2 = q) (h : Go p e below P T (mkF m q L' S)) : Go p e below P T (mkF m pc Ls (.long v :: S)) := by
  subst hq; exact Go.by_ (fun t k => XS.lstore X.here K.x rfl (K.d hd) rfl hl k) h
theorem g_astoreN (X : Stand p l e R s m args below meth c T locs cells slots) (K : Kt p Z s m meth c y bytes maxL ret) {k : Fin 4} {v : Value} {L' : Array Slot} (hd : decode bytes pc = .ok (.astore_n k, 1)) (hv : v.isRef = true) (hl : storeLocals Ls k.val v = some L') (hq : pc + 1 = q) (h : Go p e below P T (mkF m q L' S)) : Go p e below P T (mkF m pc Ls (v :: S)) := by
  subst hq; exact Go.by_ (fun t k => XS.astoreN X.here K.x rfl (K.d hd) rfl hv hl k) h
theorem g_astore (X : Stand p l e R s m args below meth c T locs cells slots) (K : Kt p Z s m meth c y bytes maxL ret) {k : Nat} {v : Value} {L' : Array Slot} (hd : decode bytes pc = .ok (.astore k, 2)) (hv : v.isRef = true) (hl : storeLocals Ls k v = some L') (hq : pc + 2 = q) (h : Go p e below P T (mkF m q L' S)) : Go p e below P T (mkF m pc Ls (v :: S)) := by
  subst hq; exact Go.by_ (fun t k => XS.astore X.here K.x rfl (K.d hd) rfl hv hl k) h
theorem g_iconst (X : Stand p l e R s m args below meth c T locs cells slots) (K : Kt p Z s m meth c y bytes maxL ret) {i : Int} {v : Int32} (hd : decode bytes pc = .ok (.iconst i, 1)) (hv : Int32.ofInt i = v) (hq : pc + 1 = q) (h : Go p e below P T (mkF m q Ls (.int v :: S))) : Go p e below P T (mkF m pc Ls S) := by
  subst hq hv; exact Go.by_ (fun t k => XS.iconst X.here K.x rfl (K.d hd) k) h
theorem g_bipush (X : Stand p l e R s m args below meth c T locs cells slots) (K : Kt p Z s m meth c y bytes maxL ret) {i : Int} {v : Int32} (hd : decode bytes pc = .ok (.bipush i, 2)) (hv : (Int8.ofInt i).toInt32 = v) (hq : pc + 2 = q) (h : Go p e below P T (mkF m q Ls (.int v :: S))) : Go p e below P T (mkF m pc Ls S) := by
  subst hq hv; exact Go.by_ (fun t k => XS.bipush X.here K.x rfl (K.d hd) k) h
theorem g_sipush (X : Stand p l e R s m args below meth c T locs cells slots) (K : Kt p Z s m meth c y bytes maxL ret) {i : Int} {v : Int32} (hd : decode bytes pc = .ok (.sipush i, 3)) (hv : (Int16.ofInt i).toInt32 = v) (hq : pc + 3 = q) (h : Go p e below P T (mkF m q Ls (.int v :: S))) : Go p e below P T (mkF m pc Ls S) := by
  subst hq hv; exact Go.by_ (fun t k => XS.sipush X.here K.x rfl (K.d hd) k) h
theorem g_null (X : Stand p l e R s m args below meth c T locs cells slots) (K : Kt p Z s m meth c y bytes maxL ret) (hd : decode bytes pc = .ok (.aconst_null, 1)) (hq : pc + 1 = q) (h : Go p e below P T (mkF m q Ls (.null :: S))) : Go p e below P T (mkF m pc Ls S) := by
  subst hq; exact Go.by_ (fun t k => XS.aconstNull X.here K.x rfl (K.d hd) k) h
theorem g_iadd (X : Stand p l e R s m args below meth c T locs cells slots) (K : Kt p Z s m meth c y bytes maxL ret) {x y z : Int32} (hd : decode bytes pc = .ok (.iadd, 1)) (hz : x + y = z) (hq : pc + 1 = q) (h : Go p e below P T (mkF m q Ls (.int z :: S))) : Go p e below P T (mkF m pc Ls (.int y :: .int x :: S)) := by
  subst hq hz; exact Go.by_ (fun t k => XS.iadd X.here K.x rfl (K.d hd) rfl k) h
theorem g_isub (X : Stand p l e R s m args below meth c T locs cells slots) (K : Kt p Z s m meth c y bytes maxL ret) {x y z : Int32} (hd : decode bytes pc = .ok (.isub, 1)) (hz : x - y = z) (hq : pc + 1 = q) (h : Go p e below P T (mkF m q Ls (.int z :: S))) : Go p e below P T (mkF m pc Ls (.int y :: .int x :: S)) := by
  subst hq hz; exact Go.by_ (fun t k => XS.isub X.here K.x rfl (K.d hd) rfl k) h
theorem g_imul (X : Stand p l e R s m args below meth c T locs cells slots) (K : Kt p Z s m meth c y bytes maxL ret) {x y z : Int32} (hd : decode bytes pc = .ok (.imul, 1)) (hz : x * y = z) (hq : pc + 1 = q) (h : Go p e below P T (mkF m q Ls (.int z :: S))) : Go p e below P T (mkF m pc Ls (.int y :: .int x :: S)) := by
  subst hq hz; exact Go.by_ (fun t k => XS.imul X.here K.x rfl (K.d hd) rfl k) h
theorem g_iand (X : Stand p l e R s m args below meth c T locs cells slots) (K : Kt p Z s m meth c y bytes maxL ret) {x y z : Int32} (hd : decode bytes pc = .ok (.iand, 1)) (hz : x &&& y = z) (hq : pc + 1 = q) (h : Go p e below P T (mkF m q Ls (.int z :: S))) : Go p e below P T (mkF m pc Ls (.int y :: .int x :: S)) := by
  subst hq hz; exact Go.by_ (fun t k => XS.iand X.here K.x rfl (K.d hd) rfl k) h
theorem g_ior (X : Stand p l e R s m args below meth c T locs cells slots) (K : Kt p Z s m meth c y bytes maxL ret) {x y z : Int32} (hd : decode bytes pc = .ok (.ior, 1)) (hz : x ||| y = z) (hq : pc + 1 = q) (h : Go p e below P T (mkF m q Ls (.int z :: S))) : Go p e below P T (mkF m pc Ls (.int y :: .int x :: S)) := by
  subst hq hz; exact Go.by_ (fun t k => XS.ior X.here K.x rfl (K.d hd) rfl k) h
theorem g_ixor (X : Stand p l e R s m args below meth c T locs cells slots) (K : Kt p Z s m meth c y bytes maxL ret) {x y z : Int32} (hd : decode bytes pc = .ok (.ixor, 1)) (hz : x ^^^ y = z) (hq : pc + 1 = q) (h : Go p e below P T (mkF m q Ls (.int z :: S))) : Go p e below P T (mkF m pc Ls (.int y :: .int x :: S)) := by
  subst hq hz; exact Go.by_ (fun t k => XS.ixor X.here K.x rfl (K.d hd) rfl k) h
theorem g_ishl (X : Stand p l e R s m args below meth c T locs cells slots) (K : Kt p Z s m meth c y bytes maxL ret) {x y z : Int32} (hd : decode bytes pc = .ok (.ishl, 1)) (hz : x <<< (y &&& 31) = z) (hq : pc + 1 = q) (h : Go p e below P T (mkF m q Ls (.int z :: S))) : Go p e below P T (mkF m pc Ls (.int y :: .int x :: S)) := by
  subst hq hz; exact Go.by_ (fun t k => XS.ishl X.here K.x rfl (K.d hd) rfl k) h
theorem g_ishr (X : Stand p l e R s m args below meth c T locs cells slots) (K : Kt p Z s m meth c y bytes maxL ret) {x y z : Int32} (hd : decode bytes pc = .ok (.ishr, 1)) (hz : x >>> (y &&& 31) = z) (hq : pc + 1 = q) (h : Go p e below P T (mkF m q Ls (.int z :: S))) : Go p e below P T (mkF m pc Ls (.int y :: .int x :: S)) := by
  subst hq hz; exact Go.by_ (fun t k => XS.ishr X.here K.x rfl (K.d hd) rfl k) h
theorem g_iushr (X : Stand p l e R s m args below meth c T locs cells slots) (K : Kt p Z s m meth c y bytes maxL ret) {x y z : Int32} (hd : decode bytes pc = .ok (.iushr, 1)) (hz : (x.toUInt32 >>> (y &&& 31).toUInt32).toInt32 = z) (hq : pc + 1 = q) (h : Go p e below P T (mkF m q Ls (.int z :: S))) : Go p e below P T (mkF m pc Ls (.int y :: .int x :: S)) := by
  subst hq hz; exact Go.by_ (fun t k => XS.iushr X.here K.x rfl (K.d hd) rfl k) h
theorem g_irem (X : Stand p l e R s m args below meth c T locs cells slots) (K : Kt p Z s m meth c y bytes maxL ret) {x y z : Int32} (hd : decode bytes pc = .ok (.irem, 1)) (hy : y ≠ 0) (hz : x % y = z) (hq : pc + 1 = q) (h : Go p e below P T (mkF m q Ls (.int z :: S))) : Go p e below P T (mkF m pc Ls (.int y :: .int x :: S)) := by
  subst hq hz; exact Go.by_ (fun t k => iremM X K.x rfl (K.d hd) rfl hy k) h
theorem g_idiv (X : Stand p l e R s m args below meth c T locs cells slots) (K : Kt p Z s m meth c y bytes maxL ret) {x y z : Int32} (hd : decode bytes pc = .ok (.idiv, 1)) (hy : y ≠ 0) (hz : x / y = z) (hq : pc + 1 = q) (h : Go p e below P T (mkF m q Ls (.int z :: S))) : Go p e below P T (mkF m pc Ls (.int y :: .int x :: S)) := by
  subst hq hz; exact Go.by_ (fun t k => XS.idiv X.here K.x rfl (K.d hd) rfl hy k) h
theorem g_ineg (X : Stand p l e R s m args below meth c T locs cells slots) (K : Kt p Z s m meth c y bytes maxL ret) {x z : Int32} (hd : decode bytes pc = .ok (.ineg, 1)) (hz : -x = z) (hq : pc + 1 = q) (h : Go p e below P T (mkF m q Ls (.int z :: S))) : Go p e below P T (mkF m pc Ls (.int x :: S)) := by
  subst hq hz; exact Go.by_ (fun t k => XS.ineg X.here K.x rfl (K.d hd) rfl k) h
theorem g_i2b (X : Stand p l e R s m args below meth c T locs cells slots) (K : Kt p Z s m meth c y bytes maxL ret) {x z : Int32} (hd : decode bytes pc = .ok (.i2b, 1)) (hz : x.toInt8.toInt32 = z) (hq : pc + 1 = q) (h : Go p e below P T (mkF m q Ls (.int z :: S))) : Go p e below P T (mkF m pc Ls (.int x :: S)) := by
  subst hq hz; exact Go.by_ (fun t k => XS.i2b X.here K.x rfl (K.d hd) rfl k) h
theorem g_i2c (X : Stand p l e R s m args below meth c T locs cells slots) (K : Kt p Z s m meth c y bytes maxL ret) {x z : Int32} (hd : decode bytes pc = .ok (.i2c, 1)) (hz : x.toUInt32.toUInt16.toUInt32.toInt32 = z) (hq : pc + 1 = q) (h : Go p e below P T (mkF m q Ls (.int z :: S))) : Go p e below P T (mkF m pc Ls (.int x :: S)) := by
  subst hq hz; exact Go.by_ (fun t k => XS.i2c X.here K.x rfl (K.d hd) rfl k) h
theorem g_i2l (X : Stand p l e R s m args below meth c T locs cells slots) (K : Kt p Z s m meth c y bytes maxL ret) {x : Int32} {z : Int64} (hd : decode bytes pc = .ok (.i2l, 1)) (hz : x.toInt64 = z) (hq : pc + 1 = q) (h : Go p e below P T (mkF m q Ls (.long z :: S))) : Go p e below P T (mkF m pc Ls (.int x :: S)) := by
  subst hq hz; exact Go.by_ (fun t k => XS.i2l X.here K.x rfl (K.d hd) rfl k) h
theorem g_lconst (X : Stand p l e R s m args below meth c T locs cells slots) (K : Kt p Z s m meth c y bytes maxL ret) {k : Fin 2} {v : Int64} (hd : decode bytes pc = .ok (.lconst k, 1)) (hv : Int64.ofInt k.val = v) (hq : pc + 1 = q) (h : Go p e below P T (mkF m q Ls (.long v :: S))) : Go p e below P T (mkF m pc Ls S) := by
  subst hq hv; exact Go.by_ (fun t k => XS.lconst X.here K.x rfl (K.d hd) k) h
theorem g_lsub (X : Stand p l e R s m args below meth c T locs cells slots) (K : Kt p Z s m meth c y bytes maxL ret) {x y z : Int64} (hd : decode bytes pc = .ok (.lsub, 1)) (hz : x - y = z) (hq : pc + 1 = q) (h : Go p e below P T (mkF m q Ls (.long z :: S))) : Go p e below P T (mkF m pc Ls (.long y :: .long x :: S)) := by
  subst hq hz; exact Go.by_ (fun t k => XS.lsub X.here K.x rfl (K.d hd) rfl k) h
theorem g_lshl (X : Stand p l e R s m args below meth c T locs cells slots) (K : Kt p Z s m meth c y bytes maxL ret) {x z : Int64} {y : Int32} (hd : decode bytes pc = .ok (.lshl, 1)) (hz : x <<< (y &&& 0x3f).toInt64 = z) (hq : pc + 1 = q) (h : Go p e below P T (mkF m q Ls (.long z :: S))) : Go p e below P T (mkF m pc Ls (.int y :: .long x :: S)) := by
  subst hq hz; exact Go.by_ (fun t k => XS.lshl X.here K.x rfl (K.d hd) rfl k) h
theorem g_lcmp (X : Stand p l e R s m args below meth c T locs cells slots) (K : Kt p Z s m meth c y bytes maxL ret) {x y : Int64} {z : Int32} (hd : decode bytes pc = .ok (.lcmp, 1)) (hz : lcmpW x y = z) (hq : pc + 1 = q) (h : Go p e below P T (mkF m q Ls (.int z :: S))) : Go p e below P T (mkF m pc Ls (.long y :: .long x :: S)) := by
  subst hq hz; exact Go.by_ (fun t k => XS.lcmp X.here K.x rfl (K.d hd) rfl k) h
theorem g_iinc (X : Stand p l e R s m args below meth c T locs cells slots) (K : Kt p Z s m meth c y bytes maxL ret) {k : Nat} {cst : Int} {x z : Int32} {L' : Array Slot} (hd : decode bytes pc = .ok (.iinc k cst, 3)) (hl : Ls[k]? = some (.val (.int x))) (hz : x + Int32.ofInt cst = z) (hl' : storeLocals Ls k (.int z) = some L') (hq : pc + 3 = q) (h : Go p e below P T (mkF m q L' S)) : Go p e below P T (mkF m pc Ls S) := by
  subst hq hz; exact Go.by_ (fun t k => XS.iinc X.here K.x rfl (K.d hd) hl hl' k) h
theorem g_dup (X : Stand p l e R s m args below meth c T locs cells slots) (K : Kt p Z s m meth c y bytes maxL ret) {x : Value} (hd : decode bytes pc = .ok (.dup, 1)) (hc : x.category = 1) (hq : pc + 1 = q) (h : Go p e below P T (mkF m q Ls (x :: x :: S))) : Go p e below P T (mkF m pc Ls (x :: S)) := by
  subst hq; exact Go.by_ (fun t k => XS.dup X.here K.x rfl (K.d hd) rfl hc k) h
theorem g_dupX1 (X : Stand p l e R s m args below meth c T locs cells slots) (K : Kt p Z s m meth c y bytes maxL ret) {x y : Value} (hd : decode bytes pc = .ok (.dup_x1, 1)) (hc : x.category = 1) (hc' : y.category = 1) (hq : pc + 1 = q) (h : Go p e below P T (mkF m q Ls (x :: y :: x :: S))) : Go p e below P T (mkF m pc Ls (x :: y :: S)) := by
  subst hq; exact Go.by_ (fun t k => XS.dupX1 X.here K.x rfl (K.d hd) rfl hc hc' k) h
theorem g_dup2 (X : Stand p l e R s m args below meth c T locs cells slots) (K : Kt p Z s m meth c y bytes maxL ret) {x y : Value} (hd : decode bytes pc = .ok (.dup2, 1)) (hc : x.category = 1) (hc' : y.category = 1) (hq : pc + 1 = q) (h : Go p e below P T (mkF m q Ls (x :: y :: x :: y :: S))) : Go p e below P T (mkF m pc Ls (x :: y :: S)) := by
  subst hq; exact Go.by_ (fun t k => XT.dup2 X.here K.x rfl (K.d hd) rfl hc hc' k) h
theorem g_pop (X : Stand p l e R s m args below meth c T locs cells slots) (K : Kt p Z s m meth c y bytes maxL ret) {x : Value} (hd : decode bytes pc = .ok (.pop, 1)) (hc : x.category = 1) (hq : pc + 1 = q) (h : Go p e below P T (mkF m q Ls S)) : Go p e below P T (mkF m pc Ls (x :: S)) := by
  subst hq; exact Go.by_ (fun t k => XS.pop X.here K.x rfl (K.d hd) rfl hc k) h
theorem g_goto (X : Stand p l e R s m args below meth c T locs cells slots) (K : Kt p Z s m meth c y bytes maxL ret) {o : Int} (hd : decode bytes pc = .ok (.goto o, 3)) (ho : 0 ≤ (pc : Int) + o) (hq : ((pc : Int) + o).toNat = q) (h : Go p e below P T (mkF m q Ls S)) : Go p e below P T (mkF m pc Ls S) :=
  Go.by_ (fun t k => XS.goto X.here K.x rfl rfl (K.d hd) ho hq k) h
theorem g_ifY (X : Stand p l e R s m args below meth c T locs cells slots) (K : Kt p Z s m meth c y bytes maxL ret) {cd : ClassFile.Cond} {x : Int32} {o : Int} (hd : decode bytes pc = .ok (.ifCond cd o, 3)) (hc : if_icmp.holds cd x 0 = true) (ho : 0 ≤ (pc : Int) + o) (hq : ((pc : Int) + o).toNat = q) (h : Go p e below P T (mkF m q Ls S)) : Go p e below P T (mkF m pc Ls (.int x :: S)) :=
  Go.by_ (fun t k => XS.ifYes X.here K.x rfl rfl (K.d hd) rfl ((if0 _ _).trans hc) ho hq k) h
theorem g_ifN (X : Stand p l e R s m args below meth c T locs cells slots) (K : Kt p Z s m meth c y bytes maxL ret) {cd : ClassFile.Cond} {x : Int32} {o : Int} (hd : decode bytes pc = .ok (.ifCond cd o, 3)) (hc : if_icmp.holds cd x 0 = false) (hq : pc + 3 = q) (h : Go p e below P T (mkF m q Ls S)) : Go p e below P T (mkF m pc Ls (.int x :: S)) := by
  subst hq; exact Go.by_ (fun t k => XS.ifNo X.here K.x rfl (K.d hd) rfl ((if0 _ _).trans hc) k) h
theorem g_icY (X : Stand p l e R s m args below meth c T locs cells slots) (K : Kt p Z s m meth c y bytes maxL ret) {cd : ClassFile.Cond} {x y : Int32} {o : Int} (hd : decode bytes pc = .ok (.if_icmp cd o, 3)) (hc : if_icmp.holds cd x y = true) (ho : 0 ≤ (pc : Int) + o) (hq : ((pc : Int) + o).toNat = q) (h : Go p e below P T (mkF m q Ls S)) : Go p e below P T (mkF m pc Ls (.int y :: .int x :: S)) :=
  Go.by_ (fun t k => XS.icmpYes X.here K.x rfl rfl (K.d hd) rfl hc ho hq k) h
theorem g_icN (X : Stand p l e R s m args below meth c T locs cells slots) (K : Kt p Z s m meth c y bytes maxL ret) {cd : ClassFile.Cond} {x y : Int32} {o : Int} (hd : decode bytes pc = .ok (.if_icmp cd o, 3)) (hc : if_icmp.holds cd x y = false) (hq : pc + 3 = q) (h : Go p e below P T (mkF m q Ls S)) : Go p e below P T (mkF m pc Ls (.int y :: .int x :: S)) := by
  subst hq; exact Go.by_ (fun t k => XS.icmpNo X.here K.x rfl (K.d hd) rfl hc k) h
theorem g_ac (X : Stand p l e R s m args below meth c T locs cells slots) (K : Kt p Z s m meth c y bytes maxL ret) {cd : ACond} {x y : Value} {o : Int} {same : Bool} (hd : decode bytes pc = .ok (.if_acmp cd o, 3)) (h1 : x.isRef = true) (h2 : y.isRef = true) (hs : decide (x = y) = same) (ho : 0 ≤ (pc : Int) + o) (hq : q = if acV cd same = true then ((pc : Int) + o).toNat else pc + 3) (h : Go p e below P T (mkF m q Ls S)) : Go p e below P T (mkF m pc Ls (y :: x :: S)) :=
  Go.by_ (fun t k => acmp X K.x rfl h1 h2 rfl (K.d hd) rfl hs ho hq k) h
theorem g_nullY (X : Stand p l e R s m args below meth c T locs cells slots) (K : Kt p Z s m meth c y bytes maxL ret) {o : Int} (hd : decode bytes pc = .ok (.ifnull o, 3)) (ho : 0 ≤ (pc : Int) + o) (hq : ((pc : Int) + o).toNat = q) (h : Go p e below P T (mkF m q Ls S)) : Go p e below P T (mkF m pc Ls (.null :: S)) :=
  Go.by_ (fun t k => XS.ifnullYes X.here K.x rfl rfl (K.d hd) rfl ho hq k) h
theorem g_nullN (X : Stand p l e R s m args below meth c T locs cells slots) (K : Kt p Z s m meth c y bytes maxL ret) {o : Int} {b : Addr} (hd : decode bytes pc = .ok (.ifnull o, 3)) (hq : pc + 3 = q) (h : Go p e below P T (mkF m q Ls S)) : Go p e below P T (mkF m pc Ls (.ref b :: S)) := by
  subst hq; exact Go.by_ (fun t k => XS.ifnullNo X.here K.x rfl (K.d hd) rfl k) h
theorem g_nonnullY (X : Stand p l e R s m args below meth c T locs cells slots) (K : Kt p Z s m meth c y bytes maxL ret) {o : Int} {b : Addr} (hd : decode bytes pc = .ok (.ifnonnull o, 3)) (ho : 0 ≤ (pc : Int) + o) (hq : ((pc : Int) + o).toNat = q) (h : Go p e below P T (mkF m q Ls S)) : Go p e below P T (mkF m pc Ls (.ref b :: S)) :=
  Go.by_ (fun t k => XS.ifnonnullYes X.here K.x rfl rfl (K.d hd) rfl ho hq k) h
theorem g_nonnullN (X : Stand p l e R s m args below meth c T locs cells slots) (K : Kt p Z s m meth c y bytes maxL ret) {o : Int} (hd : decode bytes pc = .ok (.ifnonnull o, 3)) (hq : pc + 3 = q) (h : Go p e below P T (mkF m q Ls S)) : Go p e below P T (mkF m pc Ls (.null :: S)) := by
  subst hq; exact Go.by_ (fun t k => XS.ifnonnullNo X.here K.x rfl (K.d hd) rfl k) h
theorem g_ldc (X : Stand p l e R s m args below meth c T locs cells slots) (K : Kt p Z s m meth c y bytes maxL ret) {index : Nat} {v : Int32} (w : (Jvm.Cond.constant y.cls index v).before a0 Z = true) (hd : decode bytes pc = .ok (.ldc index, 2)) (hq : pc + 2 = q) (h : Go p e below P T (mkF m q Ls (.int v :: S))) : Go p e below P T (mkF m pc Ls S) := by
  subst hq; exact Go.by_ (fun t k => X.ldcInt K.x K.own (mvT K.z w) (g := mkF m pc Ls S) rfl (K.d hd) _ k) h
theorem g_ldc2 (X : Stand p l e R s m args below meth c T locs cells slots) (K : Kt p Z s m meth c y bytes maxL ret) {index : Nat} {v : Int64} (w : (Jvm.Cond.constantLong y.cls index v).before a0 Z = true) (hd : decode bytes pc = .ok (.ldc2_w index, 3)) (hq : pc + 3 = q) (h : Go p e below P T (mkF m q Ls (.long v :: S))) : Go p e below P T (mkF m pc Ls S) := by
  subst hq; exact Go.by_ (fun t k => X.ldc2Long K.x K.own (mvT K.z w) (g := mkF m pc Ls S) rfl (K.d hd) _ k) h
theorem g_tswIn (X : Stand p l e R s m args below meth c T locs cells slots) (K : Kt p Z s m meth c y bytes maxL ret) {dflt low high : Int} {offs : Array Int} {len : Nat} {o : Int} {i : Int32} (hd : decode bytes pc = .ok (.tableswitch dflt low high offs, len)) (hin : ¬ (i.toInt < low ∨ i.toInt > high)) (hoff : offs[(i.toInt - low).toNat]? = some o) (ho : 0 ≤ (pc : Int) + o) (hq : ((pc : Int) + o).toNat = q) (h : Go p e below P T (mkF m q Ls S)) : Go p e below P T (mkF m pc Ls (.int i :: S)) :=
  Go.by_ (fun t k => XS.tswIn X.here K.x rfl rfl (K.d hd) rfl hin hoff ho hq k) h
theorem g_tswOut (X : Stand p l e R s m args below meth c T locs cells slots) (K : Kt p Z s m meth c y bytes maxL ret) {dflt low high : Int} {offs : Array Int} {len : Nat} {i : Int32} (hd : decode bytes pc = .ok (.tableswitch dflt low high offs, len)) (hout : i.toInt < low ∨ i.toInt > high) (ho : 0 ≤ (pc : Int) + dflt) (hq : ((pc : Int) + dflt).toNat = q) (h : Go p e below P T (mkF m q Ls S)) : Go p e below P T (mkF m pc Ls (.int i :: S)) :=
  Go.by_ (fun t k => XS.tswOut X.here K.x rfl rfl (K.d hd) rfl hout ho hq k) h
theorem g_dupX2 (X : Stand p l e R s m args below meth c T locs cells slots) (K : Kt p Z s m meth c y bytes maxL ret) {x y1 z : Value} (hd : decode bytes pc = .ok (.dup_x2, 1)) (hc : x.category = 1) (hc1 : y1.category = 1) (hc2 : z.category = 1) (hq : pc + 1 = q) (h : Go p e below P T (mkF m q Ls (x :: y1 :: z :: x :: S))) : Go p e below P T (mkF m pc Ls (x :: y1 :: z :: S)) := by
  subst hq
  refine Go.by_ (fun t k => ?_) h
  have hx := K.x
  have hd' := K.d hd
  jvm_step X.here [X.here.top, hx, hd', hc, hc1, hc2]
  exact k
end Plain
/-! steps that look at the heap -/
section Heap
theorem g_gets {index : Nat} {C n d : String} {v : Value} (X : Stand p l e R s m args below meth c T locs cells slots) (K : Kt p Z s m meth c y bytes maxL ret) (w : (Jvm.Cond.fieldLink y.cls index C n d).before a0 Z = true) (eT : T.heap = h) (F : Sta Z h C n d v) (hd : decode bytes pc = .ok (.getstatic index, 3)) (hq : pc + 3 = q)
    (k : ∀ T', Stand p l e R s m args below meth c T' locs cells slots → T'.heap = h → Go p e below P T' (mkF m q Ls (v :: S))) : Go p e below P T (mkF m pc Ls S) := by
  subst hq
  obtain ⟨T1, X1, e1, st⟩ := getS2 X K.x K.z (host := "") K.own (Or.inl w) Via.refl eT F (g := mkF m pc Ls S) rfl (K.d hd)
  exact Go.by_ st (k T1 X1 e1)
theorem g_getf {index : Nat} {C O n d : String} {a : Addr} {v : Value} (X : Stand p l e R s m args below meth c T locs cells slots) (K : Kt p Z s m meth c y bytes maxL ret) (w : (Jvm.Cond.fieldLink y.cls index C n d).before a0 Z = true) (via : Via Z C O n d) (eT : T.heap = h) (F : Fld Z h a O n d v) (hd : decode bytes pc = .ok (.getfield index, 3)) (hq : pc + 3 = q)
    (k : ∀ T', Stand p l e R s m args below meth c T' locs cells slots → T'.heap = h → Go p e below P T' (mkF m q Ls (v :: S))) : Go p e below P T (mkF m pc Ls (.ref a :: S)) := by
  subst hq
  obtain ⟨T1, X1, e1, st⟩ := getF X K.x K.z K.own (host := "") (Or.inl w) via eT F (g := mkF m pc Ls (.ref a :: S)) rfl rfl (K.d hd)
  exact Go.by_ st (k T1 X1 e1)
theorem g_putf {index kk : Nat} {C O n d Cl : String} {a : Addr} {v old : Value} {ty : FieldType} (X : Stand p l e R s m args below meth c T locs cells slots) (K : Kt p Z s m meth c y bytes maxL ret) (w : (Jvm.Cond.fieldLink y.cls index C n d).before a0 Z = true) (via : Via Z C O n d) (eT : T.heap = h) (F : Fld Z h a O n d old) (E : Exa Z h a Cl) (L : (Jvm.Cond.lays Cl O n d).before a0 Z = true ∨ ((Jvm.Cond.laysFinal Cl O n d).before a0 Z = true ∧ y.cls = O ∧ y.name = "<init>")) (wi : (Jvm.Cond.instantiable Cl kk).before a0 Z = true)
    (hty : parseFieldDescriptor d = some ty) (hn : narrow ty v = v) (hf : fits ty v = true) (hd : decode bytes pc = .ok (.putfield index, 3)) (hq : pc + 3 = q)
    (k : ∀ T' h', Stand p l e R s m args below meth c T' (locs ++ [⟨a, Jvm.RoadKit.slotOf Z O n d⟩]) cells slots → T'.heap = h' → Wr h h' a (Jvm.RoadKit.slotOf Z O n d) v → Fld Z h' a O n d v → Go p e below P T' (mkF m q Ls S)) : Go p e below P T (mkF m pc Ls (v :: .ref a :: S)) := by
  subst hq
  obtain ⟨T1, h1, X1, e1, W1, st⟩ := putF X K.x K.z K.own (host := "") (Or.inl w) via eT F E (L.imp id fun q => ⟨q.1, q.2.1, K.nm.trans q.2.2⟩) wi hty hn hf (g := mkF m pc Ls (v :: .ref a :: S)) rfl rfl (K.d hd)
  exact Go.by_ st (k T1 h1 X1 e1 W1 (F.same W1))
theorem g_new {index n : Nat} {C : String} (X : Stand p l e R s m args below meth c T locs cells slots) (K : Kt p Z s m meth c y bytes maxL ret) (w : (Jvm.Cond.classLink y.cls index C).before a0 Z = true) (wi : (Jvm.Cond.instantiable C n).before a0 Z = true) (wz : (Jvm.Cond.initialized C).before a0 Z = true) (eT : T.heap = h) (hd : decode bytes pc = .ok (.new index, 3)) (hc : cells + 1 ≤ R.cells) (hl : slots + n ≤ R.slots) (hq : pc + 3 = q)
    (k : ∀ (T' : State) (h' : Heap) (a : Addr), Stand p l e R s m args below meth c T' locs (cells + 1) (slots + n) → T'.heap = h' → Ext h h' → h.size = a → Exa Z h' a C → (∀ {O nm d : String} {ty : FieldType}, Laid Z a0 C O nm d → parseFieldDescriptor d = some ty → Fld Z h' a O nm d (defaultValue ty)) → Go p e below P T' (mkF m q Ls (.ref a :: S))) : Go p e below P T (mkF m pc Ls S) := by
  subst hq
  obtain ⟨T1, h1, X1, e1, E1, A1, D1, -, st⟩ := newO X K.x K.z K.own w wi wz eT (g := mkF m pc Ls S) rfl (K.d hd) hc hl
  exact Go.by_ st (k T1 h1 _ X1 e1 E1 rfl A1 D1)
theorem g_init {index : Nat} {a : Addr} {W : Nat} (X : Stand p l e R s m args below meth c T locs cells slots) (K : Kt p Z s m meth c y bytes maxL ret) (w1 : (Jvm.Cond.methodLink y.cls index Lib.objectInit).before a0 Z = true) (w2 : (Jvm.Cond.instanceMethod Lib.objectInit).before a0 Z = true) (w3 : (Jvm.Cond.code Lib.objectInit ⟨#[0xb1]⟩ 1 none).before a0 Z = true) (eT : T.heap = h) (hsz : Ls.size = maxL) (hd : decode bytes pc = .ok (.invokespecial index, 3)) (hf : 1 ≤ R.frames) (hW : (S.map fun v => v.category).sum ≤ W) (hl : W + 12 ≤ R.locals) (hq : pc + 3 = q)
    (k : ∀ T', Stand p l e R s m args below meth c T' locs cells slots → T'.heap = h → Go p e below P T' (mkF m q Ls S)) : Go p e below P T (mkF m pc Ls (.ref a :: S)) := by
  subst hq
  obtain ⟨T1, X1, e1, st⟩ := initO X K.x K.z K.own w1 w2 w3 eT (g := mkF m pc Ls (.ref a :: S)) rfl (by rw [K.ml]; exact hsz) rfl (K.d hd) hf (W := W) (by show 2 * 0 + _ ≤ _; omega) hl
  exact Go.by_ st (k T1 X1 e1)
theorem g_castN {index : Nat} (X : Stand p l e R s m args below meth c T locs cells slots) (K : Kt p Z s m meth c y bytes maxL ret) (hd : decode bytes pc = .ok (.checkcast index, 3)) (hq : pc + 3 = q) (k : Go p e below P T (mkF m q Ls (.null :: S))) : Go p e below P T (mkF m pc Ls (.null :: S)) := by
  subst hq
  exact Go.by_ (fun t k => X.checkcastNull K.x (g := mkF m pc Ls (.null :: S)) rfl rfl (K.d hd) _ k) k
theorem g_cast {index : Nat} {C : String} {a : Addr} (X : Stand p l e R s m args below meth c T locs cells slots) (K : Kt p Z s m meth c y bytes maxL ret) (w : (Jvm.Cond.classLink y.cls index C).before a0 Z = true) (eT : T.heap = h) (F : Ins Z h a C true) (hd : decode bytes pc = .ok (.checkcast index, 3)) (hq : pc + 3 = q)
    (k : ∀ T', Stand p l e R s m args below meth c T' locs cells slots → T'.heap = h → Go p e below P T' (mkF m q Ls (.ref a :: S))) : Go p e below P T (mkF m pc Ls (.ref a :: S)) := by
  subst hq
  obtain ⟨T1, X1, e1, st⟩ := castY X K.x K.z K.own w eT F (g := mkF m pc Ls (.ref a :: S)) rfl rfl (K.d hd)
  exact Go.by_ st (k T1 X1 e1)
theorem g_lambda {index : Nat} {σ : Lambda.Shape} {W : Nat} (X : Stand p l e R s m args below meth c T locs cells slots) (K : Kt p Z s m meth c y bytes maxL ret) (w : (Jvm.Cond.lambdaSite y pc index σ).before a0 Z = true) (hσ : σ.captured = []) (hsz : Ls.size = maxL) (hd : decode bytes pc = .ok (.invokedynamic index, 5)) (hW : (S.map fun v => v.category).sum ≤ W) (hl : W + 3072 ≤ R.locals) (hq : pc + 5 = q)
    (k : ∀ a : Addr, Go p e below P T (mkF m q Ls (.ref a :: S))) : Go p e below P T (mkF m pc Ls S) := by
  subst hq
  obtain ⟨cK, one, hat⟩ := Cond.lambdaSite_spec w
  obtain ⟨m', kS, cfS, i0, p0, lk, hm', hkS, hcfS, -, -, hfind, hmade, hcan, hlk⟩ := State.lambdaAt?_spec hat
  have hn : Z.methodNamed? y = some m := by
    have q := State.methodNamed?_setVm (s := Z) K.z.alike y
    have q2 : (Z.setVm s.vm).methodNamed? y = s.methodNamed? y := rfl
    rw [← q, q2]; exact K.named
  cases hn.symm.trans hm'
  rcases hlk with ⟨a, cell, rfl, -⟩ | ⟨-, -, h⟩
  · obtain ⟨k', hk', he⟩ := K.z.alike.2.2 _ _ hkS
    refine Go.by_ (fun t kk => X.lambdaConstant K.x (g := mkF m pc Ls S) rfl (by rw [K.ml]; exact hsz) (K.d hd) hk' (by rw [he]; exact hfind) (by rw [X.admits.platform]; show 2 * 0 + (S.map fun v => v.category).sum + 3072 ≤ _; omega) kk) (k a)
  · exact absurd hσ h
/-! arrays -/
theorem g_len {a : Addr} {kA : ClassId} {ty : FieldType} {n : Int32} {vs : List Value} {dv : Value} (X : Stand p l e R s m args below meth c T locs cells slots) (K : Kt p Z s m meth c y bytes maxL ret) (eT : T.heap = h) (A : Arv Z h a kA ty n vs dv) (hd : decode bytes pc = .ok (.arraylength, 1)) (hq : pc + 1 = q) (k : Go p e below P T (mkF m q Ls (.int n :: S))) : Go p e below P T (mkF m pc Ls (.ref a :: S)) := by
  subst hq
  obtain ⟨cl, Ar, -, Sz, Nn, -, -⟩ := A
  refine Go.by_ (fun t k => X.arraylength K.x (by rw [eT]; exact Ar.1) (State.isArrayOf_alike K.z.alike Ar.2.1) (g := mkF m pc Ls (.ref a :: S)) rfl rfl (K.d hd) _ k) ?_
  rw [len_of Sz Nn]; exact k
theorem arv_at {a : Addr} {kA : ClassId} {ty : FieldType} {n j : Int32} {vs : List Value} {dv v : Value} (A : Arv Z h a kA ty n vs dv) (hj : ¬ j < 0 ∧ j < n) (hv : vs.getD j.toNatClampNeg dv = v) :
    ∃ cl, Arr Z h a cl ty ∧ ¬ (j < 0 ∨ cl.slots.size ≤ j.toNatClampNeg) ∧ cl.slots[j.toNatClampNeg]? = some v := by
  obtain ⟨cl, Ar, -, Sz, Nn, H, -⟩ := A
  have hin := inb_of Sz hj
  exact ⟨cl, Ar, hin, H.at hin hv⟩
theorem g_iald {a : Addr} {kA : ClassId} {n j : Int32} {vs : List Value} {dv v : Value} (X : Stand p l e R s m args below meth c T locs cells slots) (K : Kt p Z s m meth c y bytes maxL ret) (eT : T.heap = h) (A : Arv Z h a kA .int n vs dv) (hj : ¬ j < 0 ∧ j < n) (hv : vs.getD j.toNatClampNeg dv = v) (hd : decode bytes pc = .ok (.iaload, 1)) (hq : pc + 1 = q) (k : Go p e below P T (mkF m q Ls (v :: S))) : Go p e below P T (mkF m pc Ls (.int j :: .ref a :: S)) := by
  subst hq
  obtain ⟨cl, Ar, hin, hat⟩ := arv_at A hj hv
  exact Go.by_ (fun t k => X.iaload K.x (by rw [eT]; exact Ar.1) (State.isArrayOf_alike K.z.alike Ar.2.1) Ar.2.2 hin hat (g := mkF m pc Ls (.int j :: .ref a :: S)) rfl rfl (K.d hd) _ k) k
theorem g_bald {a : Addr} {kA : ClassId} {n j : Int32} {vs : List Value} {dv v : Value} (X : Stand p l e R s m args below meth c T locs cells slots) (K : Kt p Z s m meth c y bytes maxL ret) (eT : T.heap = h) (A : Arv Z h a kA .byte n vs dv) (hj : ¬ j < 0 ∧ j < n) (hv : vs.getD j.toNatClampNeg dv = v) (hd : decode bytes pc = .ok (.baload, 1)) (hq : pc + 1 = q) (k : Go p e below P T (mkF m q Ls (v :: S))) : Go p e below P T (mkF m pc Ls (.int j :: .ref a :: S)) := by
  subst hq
  obtain ⟨cl, Ar, hin, hat⟩ := arv_at A hj hv
  exact Go.by_ (fun t k => X.baloadBytes K.x (by rw [eT]; exact Ar.1) (State.isArrayOf_alike K.z.alike Ar.2.1) Ar.2.2 hin hat (g := mkF m pc Ls (.int j :: .ref a :: S)) rfl rfl (K.d hd) _ k) k
theorem g_zald {a : Addr} {kA : ClassId} {n j : Int32} {vs : List Value} {dv v : Value} (X : Stand p l e R s m args below meth c T locs cells slots) (K : Kt p Z s m meth c y bytes maxL ret) (eT : T.heap = h) (A : Arv Z h a kA .boolean n vs dv) (hj : ¬ j < 0 ∧ j < n) (hv : vs.getD j.toNatClampNeg dv = v) (hd : decode bytes pc = .ok (.baload, 1)) (hq : pc + 1 = q) (k : Go p e below P T (mkF m q Ls (v :: S))) : Go p e below P T (mkF m pc Ls (.int j :: .ref a :: S)) := by
  subst hq
  obtain ⟨cl, Ar, hin, hat⟩ := arv_at A hj hv
  exact Go.by_ (fun t k => X.baloadBooleans K.x (by rw [eT]; exact Ar.1) (State.isArrayOf_alike K.z.alike Ar.2.1) Ar.2.2 hin hat (g := mkF m pc Ls (.int j :: .ref a :: S)) rfl rfl (K.d hd) _ k) k
theorem g_aald {a : Addr} {kA : ClassId} {ty : FieldType} {n j : Int32} {vs : List Value} {dv v : Value} (X : Stand p l e R s m args below meth c T locs cells slots) (K : Kt p Z s m meth c y bytes maxL ret) (eT : T.heap = h) (A : Arv Z h a kA ty n vs dv) (hty : ty.isReference = true) (hj : ¬ j < 0 ∧ j < n) (hv : vs.getD j.toNatClampNeg dv = v) (hd : decode bytes pc = .ok (.aaload, 1)) (hq : pc + 1 = q) (k : Go p e below P T (mkF m q Ls (v :: S))) : Go p e below P T (mkF m pc Ls (.int j :: .ref a :: S)) := by
  subst hq
  obtain ⟨cl, Ar, hin, hat⟩ := arv_at A hj hv
  exact Go.by_ (fun t k => X.aaload K.x (by rw [eT]; exact Ar.1) (State.isArrayOf_alike K.z.alike Ar.2.1) hty Ar.2.2 hin hat (g := mkF m pc Ls (.int j :: .ref a :: S)) rfl rfl (K.d hd) _ k) k
theorem g_newp {aty : ArrayType} {n : Int32} {cap : Nat} {ty : FieldType} {vs : List Value} (X : Stand p l e R s m args below meth c T locs cells slots) (K : Kt p Z s m meth c y bytes maxL ret) (w : (Jvm.Cond.arrayClass ty).before a0 Z = true) (hty : newarray.typeOf aty = ty) (eT : T.heap = h) (hd : decode bytes pc = .ok (.newarray aty, 2)) (hn : ¬ n < 0) (hcap : n.toNatClampNeg ≤ cap) (hvs : List.replicate cap (defaultValue ty) = vs) (hb : cap * 8 ≤ 536870912) (hc : cells + 1 ≤ R.cells) (hl : slots + cap ≤ R.slots) (hq : pc + 2 = q)
    (k : ∀ (T' : State) (h' : Heap) (a : Addr) (kA : ClassId), Stand p l e R s m args below meth c T' locs (cells + 1) (slots + cap) → T'.heap = h' → Ext h h' → h.size = a → Arv Z h' a kA ty n vs (defaultValue ty) → Go p e below P T' (mkF m q Ls (.ref a :: S))) : Go p e below P T (mkF m pc Ls (.int n :: S)) := by
  subst hq hty hvs
  obtain ⟨T1, h1, kA, X1, e1, E1, A1, st⟩ := newP X K.x K.z w eT (g := mkF m pc Ls (.int n :: S)) rfl (K.d hd) rfl hn hcap hb hc hl
  exact Go.by_ st (k T1 h1 _ kA X1 e1 E1 rfl ((Arv.new A1 hn).pad (pad_rep [] _ cap)))
theorem g_newr {index : Nat} {C : String} {n : Int32} {cap : Nat} {vs : List Value} (X : Stand p l e R s m args below meth c T locs cells slots) (K : Kt p Z s m meth c y bytes maxL ret) (w : (Jvm.Cond.classLink y.cls index C).before a0 Z = true) (w2 : (Jvm.Cond.arrayOver (.object C)).before a0 Z = true) (eT : T.heap = h) (hd : decode bytes pc = .ok (.anewarray index, 3)) (hn : ¬ n < 0) (hcap : n.toNatClampNeg ≤ cap) (hvs : List.replicate cap Value.null = vs) (hb : cap * 8 ≤ 536870912) (hc : cells + 1 ≤ R.cells) (hl : slots + cap ≤ R.slots) (hq : pc + 3 = q)
    (k : ∀ (T' : State) (h' : Heap) (a : Addr) (kA : ClassId), Stand p l e R s m args below meth c T' locs (cells + 1) (slots + cap) → T'.heap = h' → Ext h h' → h.size = a → Arv Z h' a kA (.object C) n vs .null → Ovr Z kA C → Go p e below P T' (mkF m q Ls (.ref a :: S))) : Go p e below P T (mkF m pc Ls (.int n :: S)) := by
  subst hq hvs
  obtain ⟨T1, h1, kA, X1, e1, E1, A1, O1, st⟩ := newR X K.x K.z K.own w w2 eT (g := mkF m pc Ls (.int n :: S)) rfl (K.d hd) rfl hn hcap hb hc hl
  exact Go.by_ st (k T1 h1 _ kA X1 e1 E1 rfl ((Arv.new A1 hn).pad (pad_rep [] _ cap)) O1)
theorem g_grid {index : Nat} {C ad : String} {ty : FieldType} {n k : Int32} {N cap : Nat} {vs : List Value} (X : Stand p l e R s m args below meth c T locs cells slots) (K : Kt p Z s m meth c y bytes maxL ret) (hC : (FieldType.array ty).toString = C) (had : "[" ++ C = ad) (w1 : (Jvm.Cond.classLink y.cls index ad).before a0 Z = true) (w2 : (Jvm.Cond.arrayOver (.array ty)).before a0 Z = true) (w3 : (Jvm.Cond.arrayClass ty).before a0 Z = true) (eT : T.heap = h) (hd : decode bytes pc = .ok (.multianewarray index 2, 4)) (hn : ¬ n < 0) (hk : ¬ k < 0) (hN : n.toNatClampNeg = N) (hcap : k.toNatClampNeg ≤ cap) (hvs : List.replicate cap (defaultValue ty) = vs) (hb : cap * 8 ≤ 536870912) (hb1 : N ≤ 1000) (hdf : fits ty (defaultValue ty) = true) (hdd : (defaultValue ty).isDefault = true) (hc : cells + (1 + N) ≤ R.cells) (hl : slots + (N + N * cap) ≤ R.slots) (hq : pc + 4 = q)
    (kk : ∀ (T' : State) (h' : Heap) (a : Addr) (kA kI : ClassId), Stand p l e R s m args below meth c T' locs (cells + (1 + N)) (slots + (N + N * cap)) → T'.heap = h' → Ext h h' → h.size = a → Arv Z h' a kA (.array ty) n ((List.range N).map fun j => Value.ref (a + 1 + j)) .null → (∀ j : Nat, j < N → Arv Z h' (a + 1 + j) kI ty k vs (defaultValue ty)) → Go p e below P T' (mkF m q Ls (.ref a :: S))) : Go p e below P T (mkF m pc Ls (.int k :: .int n :: S)) := by
  subst hq hvs
  obtain ⟨T1, h1, kA, kI, X1, e1, E1, A1, -, -, I1, st⟩ := gridM X K.x K.z K.own hC had w1 w2 w3 eT (g := mkF m pc Ls (.int k :: .int n :: S)) rfl (K.d hd) rfl hn hk hN rfl hcap hb hb1 hdf hdd hc hl
  refine Go.by_ st (kk T1 h1 _ kA kI X1 e1 E1 rfl ?_ fun j hj => ?_)
  · simpa [List.map_map, Function.comp_def] using A1
  · exact (Arv.new (I1 j _ (by simp [hj])).1 hk).pad (pad_rep [] _ cap)
theorem arv_set {a : Addr} {kA : ClassId} {ty : FieldType} {n j : Int32} {vs vs' : List Value} {dv v : Value} {h' : Heap} (A : Arv Z h a kA ty n vs dv) (hv : fits ty v = true) (W : Wr h h' a j.toNatClampNeg v) (hl : j.toNatClampNeg < vs.length) (hs : vs.set j.toNatClampNeg v = vs') : Arv Z h' a kA ty n vs' dv := by
  subst hs
  obtain ⟨cl, Ar, q1, Sz, Nn, H, G⟩ := A
  exact Arv.set Ar q1 Sz Nn H G hv W _ rfl hl
theorem g_iast {a : Addr} {kA : ClassId} {n j x : Int32} {vs vs' : List Value} {dv : Value} (X : Stand p l e R s m args below meth c T locs cells slots) (K : Kt p Z s m meth c y bytes maxL ret) (eT : T.heap = h) (A : Arv Z h a kA .int n vs dv) (hj : ¬ j < 0 ∧ j < n) (hl : j.toNatClampNeg < vs.length) (hs : vs.set j.toNatClampNeg (.int x) = vs') (hd : decode bytes pc = .ok (.iastore, 1)) (hq : pc + 1 = q)
    (k : ∀ T' h', Stand p l e R s m args below meth c T' (locs ++ [⟨a, j.toNatClampNeg⟩]) cells slots → T'.heap = h' → Wr h h' a j.toNatClampNeg (.int x) → Arv Z h' a kA .int n vs' dv → Go p e below P T' (mkF m q Ls S)) : Go p e below P T (mkF m pc Ls (.int x :: .int j :: .ref a :: S)) := by
  subst hq
  obtain ⟨cl, Ar, hin, -⟩ := arv_at A hj rfl
  obtain ⟨T1, h1, X1, e1, W1, st⟩ := stI X K.x K.z eT Ar hin (g := mkF m pc Ls (.int x :: .int j :: .ref a :: S)) rfl rfl (K.d hd)
  exact Go.by_ st (k T1 h1 X1 e1 W1 (arv_set A rfl W1 hl hs))
theorem g_last {a : Addr} {kA : ClassId} {n j : Int32} {x : Int64} {vs vs' : List Value} {dv : Value} (X : Stand p l e R s m args below meth c T locs cells slots) (K : Kt p Z s m meth c y bytes maxL ret) (eT : T.heap = h) (A : Arv Z h a kA .long n vs dv) (hj : ¬ j < 0 ∧ j < n) (hl : j.toNatClampNeg < vs.length) (hs : vs.set j.toNatClampNeg (.long x) = vs') (hd : decode bytes pc = .ok (.lastore, 1)) (hq : pc + 1 = q)
    (k : ∀ T' h', Stand p l e R s m args below meth c T' (locs ++ [⟨a, j.toNatClampNeg⟩]) cells slots → T'.heap = h' → Wr h h' a j.toNatClampNeg (.long x) → Arv Z h' a kA .long n vs' dv → Go p e below P T' (mkF m q Ls S)) : Go p e below P T (mkF m pc Ls (.long x :: .int j :: .ref a :: S)) := by
  subst hq
  obtain ⟨cl, Ar, hin, -⟩ := arv_at A hj rfl
  obtain ⟨T1, h1, X1, e1, W1, st⟩ := stJ X K.x K.z eT Ar hin (g := mkF m pc Ls (.long x :: .int j :: .ref a :: S)) rfl rfl (K.d hd)
  exact Go.by_ st (k T1 h1 X1 e1 W1 (arv_set A rfl W1 hl hs))
theorem g_bast {a : Addr} {kA : ClassId} {n j x z : Int32} {vs vs' : List Value} {dv : Value} (X : Stand p l e R s m args below meth c T locs cells slots) (K : Kt p Z s m meth c y bytes maxL ret) (eT : T.heap = h) (A : Arv Z h a kA .byte n vs dv) (hj : ¬ j < 0 ∧ j < n) (hl : j.toNatClampNeg < vs.length) (hz : nar .byte x = z) (hs : vs.set j.toNatClampNeg (.int z) = vs') (hd : decode bytes pc = .ok (.bastore, 1)) (hq : pc + 1 = q)
    (k : ∀ T' h', Stand p l e R s m args below meth c T' (locs ++ [⟨a, j.toNatClampNeg⟩]) cells slots → T'.heap = h' → Wr h h' a j.toNatClampNeg (.int z) → Arv Z h' a kA .byte n vs' dv → Go p e below P T' (mkF m q Ls S)) : Go p e below P T (mkF m pc Ls (.int x :: .int j :: .ref a :: S)) := by
  subst hq hz
  obtain ⟨cl, Ar, hin, -⟩ := arv_at A hj rfl
  obtain ⟨T1, h1, X1, e1, W1, st⟩ := stB X K.x K.z eT Ar hin (g := mkF m pc Ls (.int x :: .int j :: .ref a :: S)) rfl rfl (K.d hd)
  exact Go.by_ st (k T1 h1 X1 e1 W1 (arv_set A (fits_nar_byte _) W1 hl hs))
theorem g_zast {a : Addr} {kA : ClassId} {n j x z : Int32} {vs vs' : List Value} {dv : Value} (X : Stand p l e R s m args below meth c T locs cells slots) (K : Kt p Z s m meth c y bytes maxL ret) (eT : T.heap = h) (A : Arv Z h a kA .boolean n vs dv) (hj : ¬ j < 0 ∧ j < n) (hl : j.toNatClampNeg < vs.length) (hz : nar .boolean x = z) (hs : vs.set j.toNatClampNeg (.int z) = vs') (hd : decode bytes pc = .ok (.bastore, 1)) (hq : pc + 1 = q)
    (k : ∀ T' h', Stand p l e R s m args below meth c T' (locs ++ [⟨a, j.toNatClampNeg⟩]) cells slots → T'.heap = h' → Wr h h' a j.toNatClampNeg (.int z) → Arv Z h' a kA .boolean n vs' dv → Go p e below P T' (mkF m q Ls S)) : Go p e below P T (mkF m pc Ls (.int x :: .int j :: .ref a :: S)) := by
  subst hq hz
  obtain ⟨cl, Ar, hin, -⟩ := arv_at A hj rfl
  obtain ⟨T1, h1, X1, e1, W1, st⟩ := stZ X K.x K.z eT Ar hin (g := mkF m pc Ls (.int x :: .int j :: .ref a :: S)) rfl rfl (K.d hd)
  exact Go.by_ st (k T1 h1 X1 e1 W1 (arv_set A (fits_nar_bool _) W1 hl hs))
theorem g_aast {a : Addr} {kA : ClassId} {C : String} {n j : Int32} {v : Value} {vs vs' : List Value} {dv : Value} (X : Stand p l e R s m args below meth c T locs cells slots) (K : Kt p Z s m meth c y bytes maxL ret) (eT : T.heap = h) (A : Arv Z h a kA (.object C) n vs dv) (hv : v = .null ∨ ∃ b, v = .ref b ∧ Ovr Z kA C ∧ Ins Z h b C true) (hj : ¬ j < 0 ∧ j < n) (hl : j.toNatClampNeg < vs.length) (hs : vs.set j.toNatClampNeg v = vs') (hd : decode bytes pc = .ok (.aastore, 1)) (hq : pc + 1 = q)
    (k : ∀ T' h', Stand p l e R s m args below meth c T' (locs ++ [⟨a, j.toNatClampNeg⟩]) cells slots → T'.heap = h' → Wr h h' a j.toNatClampNeg v → Arv Z h' a kA (.object C) n vs' dv → Go p e below P T' (mkF m q Ls S)) : Go p e below P T (mkF m pc Ls (v :: .int j :: .ref a :: S)) := by
  subst hq
  have hfit : fits (.object C) v = true := by rcases hv with rfl | ⟨b, rfl, -⟩ <;> rfl
  obtain ⟨cl, Ar, q1, Sz, -⟩ := id A
  have hin := inb_of Sz hj
  have F : Sto Z h a v := by
    rcases hv with rfl | ⟨b, rfl, O, I⟩
    · exact Or.inl rfl
    · exact Sto.ofV Ar q1 O I
  obtain ⟨T1, h1, X1, e1, W1, st⟩ := stR X K.x K.z eT Ar hin rfl F (g := mkF m pc Ls (v :: .int j :: .ref a :: S)) rfl rfl (K.d hd)
  exact Go.by_ st (k T1 h1 X1 e1 W1 (arv_set A hfit W1 hl hs))
/-! calls -/
variable {y' : MethodName} {bytes' : ByteArray} {maxL' : Nat} {ret' : Option FieldType} {rm : Room} {as' : Array Value} {Q' : Option Value → Heap → List Loc → Prop} {index : Nat} {argsL rest : List Value} {W : Nat}
theorem g_static (X : Stand p l e R s m args below meth c T locs cells slots) (K : Kt p Z s m meth c y bytes maxL ret) (w1 : (Jvm.Cond.methodLink y.cls index y').before a0 Z = true) (w2 : (Jvm.Cond.static y').before a0 Z = true) (w3 : (Jvm.Cond.initialized y'.cls).before a0 Z = true) (w4 : (Jvm.Cond.code y' bytes' maxL' ret').before a0 Z = true) (hy : y'.cls ≠ "java/lang/invoke/MethodHandle" ∧ y'.cls ≠ "java/lang/invoke/VarHandle")
    (hM : Mt l Z y' bytes' maxL' ret' [] rm as' h Q') (eT : T.heap = h) (hsz : Ls.size = maxL) (hlen : ∀ sig, parseMethodDescriptor y'.desc = some sig → argsL.length = sig.parameters.length) (hst : S = argsL.reverse ++ rest) (has : argsL.toArray = as') (hW : (rest.map fun v => v.category).sum ≤ W) (hd : decode bytes pc = .ok (.invokestatic index, 3))
    (hf : rm.frames + 1 ≤ R.frames) (hl : W + (maxL' + 11) + rm.locals ≤ R.locals) (hc : cells + rm.cells ≤ R.cells) (hs : slots + rm.slots ≤ R.slots) (hq : pc + 3 = q)
    (k : ∀ T' v L, Stand p l e R s m args below meth c T' (locs ++ L) (cells + rm.cells) (slots + rm.slots) → Q' v T'.heap L → Go p e below P T' (mkF m q Ls (v.toList ++ rest))) : Go p e below P T (mkF m pc Ls S) := by
  subst hq has hst
  obtain ⟨v, _, ⟨T1, L1, k1, n1⟩, -, X1, ⟨Lc, hQ, l1, y1, z1⟩, st⟩ := Jvm.LawKit.callS X K.x (y := y') K.own (mvT K.z w1) (mvT K.z w2) (mvT K.z w3) (mvT K.z w4) hy (backOf (W := W) hM K.z w4 w3 hf hl) (g := mkF m pc Ls (argsL.reverse ++ rest)) rfl (by rw [K.ml]; exact hsz) (argsL := argsL) (rest := rest) hlen rfl (by show 2 * 0 + _ ≤ _; omega) (K.d hd) (fun _ _ => ⟨rfl, eT, hc, hs⟩)
  dsimp only [Pt.U, Pt.locs, Pt.cells, Pt.slots] at X1 l1 y1 z1 st hQ
  subst l1 y1 z1
  exact Go.by_ st (k T1 v Lc X1 hQ)
theorem g_special {a : Addr} (X : Stand p l e R s m args below meth c T locs cells slots) (K : Kt p Z s m meth c y bytes maxL ret) (hy1 : y'.name = "<init>") (w1 : (Jvm.Cond.methodLink y.cls index y').before a0 Z = true) (w2 : (Jvm.Cond.instanceMethod y').before a0 Z = true) (w3 : (Jvm.Cond.initialized y'.cls).before a0 Z = true) (w4 : (Jvm.Cond.code y' bytes' maxL' none).before a0 Z = true) (hy : y'.cls ≠ "java/lang/invoke/MethodHandle" ∧ y'.cls ≠ "java/lang/invoke/VarHandle")
    (hM : Mt l Z y' bytes' maxL' none [] rm as' h Q') (eT : T.heap = h) (hsz : Ls.size = maxL) (hlen : ∀ sig, parseMethodDescriptor y'.desc = some sig → argsL.length = sig.parameters.length) (hst : S = argsL.reverse ++ .ref a :: rest) (has : (Value.ref a :: argsL).toArray = as') (hW : (rest.map fun v => v.category).sum ≤ W) (hd : decode bytes pc = .ok (.invokespecial index, 3))
    (hf : rm.frames + 1 ≤ R.frames) (hl : W + (maxL' + 11) + rm.locals ≤ R.locals) (hc : cells + rm.cells ≤ R.cells) (hs : slots + rm.slots ≤ R.slots) (hq : pc + 3 = q)
    (k : ∀ T' v L, Stand p l e R s m args below meth c T' (locs ++ L) (cells + rm.cells) (slots + rm.slots) → Q' v T'.heap L → Go p e below P T' (mkF m q Ls (v.toList ++ rest))) : Go p e below P T (mkF m pc Ls S) := by
  subst hq has hst
  obtain ⟨v, _, ⟨T1, L1, k1, n1⟩, -, X1, ⟨Lc, hQ, l1, y1, z1⟩, st⟩ := X.specialBack K.x (y := y') hy1 K.own (mvT K.z w1) (mvT K.z w2) (mvT K.z w4) hy (backOf (W := W) hM K.z w4 w3 hf hl) (g := mkF m pc Ls (argsL.reverse ++ .ref a :: rest)) rfl (by rw [K.ml]; exact hsz) (Steps.refl _) (a := a) (argsL := argsL) (rest := rest) hlen rfl (by show 2 * 0 + _ ≤ _; omega) (K.d hd) (fun _ _ => ⟨rfl, eT, hc, hs⟩)
  dsimp only [Pt.U, Pt.locs, Pt.cells, Pt.slots] at X1 l1 y1 z1 st hQ
  subst l1 y1 z1
  exact Go.tr st (k T1 v Lc X1 hQ)
theorem g_virtual {a : Addr} {C : String} {z' : MethodName} (X : Stand p l e R s m args below meth c T locs cells slots) (K : Kt p Z s m meth c y bytes maxL ret) (w1 : (Jvm.Cond.methodLink y.cls index y').before a0 Z = true) (w2 : (Jvm.Cond.declares y').before a0 Z = true) (nf : NotFace s y') (w5 : (Jvm.Cond.selects C y' z').before a0 Z = true) (w6 : (Jvm.Cond.instanceMethod z').before a0 Z = true) (w3 : (Jvm.Cond.initialized z'.cls).before a0 Z = true) (w4 : (Jvm.Cond.code z' bytes' maxL' ret').before a0 Z = true) (hy : y'.cls ≠ "java/lang/invoke/MethodHandle" ∧ y'.cls ≠ "java/lang/invoke/VarHandle")
    (hM : Mt l Z z' bytes' maxL' ret' [] rm as' h Q') (eT : T.heap = h) (E : Exa Z h a C) (hsz : Ls.size = maxL) (hlen : ∀ sig, parseMethodDescriptor y'.desc = some sig → argsL.length = sig.parameters.length) (hst : S = argsL.reverse ++ .ref a :: rest) (has : (Value.ref a :: argsL).toArray = as') (hW : (rest.map fun v => v.category).sum ≤ W) (hd : decode bytes pc = .ok (.invokevirtual index, 3))
    (hf : rm.frames + 1 ≤ R.frames) (hl : W + (maxL' + 11) + rm.locals ≤ R.locals) (hc : cells + rm.cells ≤ R.cells) (hs : slots + rm.slots ≤ R.slots) (hq : pc + 3 = q)
    (k : ∀ T' v L, Stand p l e R s m args below meth c T' (locs ++ L) (cells + rm.cells) (slots + rm.slots) → Q' v T'.heap L → Go p e below P T' (mkF m q Ls (v.toList ++ rest))) : Go p e below P T (mkF m pc Ls S) := by
  subst hq has hst
  obtain ⟨cq, kq, qa, qb, qc⟩ := isOf K.z eT E
  obtain ⟨v, _, ⟨T1, L1, k1, n1⟩, -, X1, ⟨Lc, hQ, l1, y1, z1⟩, st⟩ := X.virtualBack K.x (y := y') (z := z') K.own (mvT K.z w1) (mvT K.z w2) nf (mvT K.z w5) (mvT K.z w6) hy (backOf (W := W) hM K.z w4 w3 hf hl) qa qc (g := mkF m pc Ls (argsL.reverse ++ .ref a :: rest)) rfl (by rw [K.ml]; exact hsz) (Steps.refl _) (argsL := argsL) (rest := rest) hlen rfl (by show 2 * 0 + _ ≤ _; omega) (K.d hd) (fun _ _ => ⟨rfl, eT, hc, hs⟩)
  dsimp only [Pt.U, Pt.locs, Pt.cells, Pt.slots] at X1 l1 y1 z1 st hQ
  subst l1 y1 z1
  exact Go.tr st (k T1 v Lc X1 hQ)
theorem g_virtualUp {a : Addr} {C owner : String} {z' : MethodName} (X : Stand p l e R s m args below meth c T locs cells slots) (K : Kt p Z s m meth c y bytes maxL ret) (w1 : (Jvm.Cond.methodLink y.cls index y').before a0 Z = true) (w0 : (Jvm.Cond.sameMethod y'.cls owner y'.name y'.desc).before a0 Z = true) (w2 : (Jvm.Cond.declares ⟨owner, y'.name, y'.desc⟩).before a0 Z = true) (hy : owner ≠ "java/lang/invoke/MethodHandle" ∧ owner ≠ "java/lang/invoke/VarHandle") (w5 : (Jvm.Cond.selects C y' z').before a0 Z = true) (w6 : (Jvm.Cond.instanceMethod z').before a0 Z = true) (w3 : (Jvm.Cond.initialized z'.cls).before a0 Z = true) (w4 : (Jvm.Cond.code z' bytes' maxL' ret').before a0 Z = true)
    (hM : Mt l Z z' bytes' maxL' ret' [] rm as' h Q') (eT : T.heap = h) (E : Exa Z h a C) (hsz : Ls.size = maxL) (hlen : ∀ sig, parseMethodDescriptor y'.desc = some sig → argsL.length = sig.parameters.length) (hst : S = argsL.reverse ++ .ref a :: rest) (has : (Value.ref a :: argsL).toArray = as') (hW : (rest.map fun v => v.category).sum ≤ W) (hd : decode bytes pc = .ok (.invokevirtual index, 3))
    (hf : rm.frames + 1 ≤ R.frames) (hl : W + (maxL' + 11) + rm.locals ≤ R.locals) (hc : cells + rm.cells ≤ R.cells) (hs : slots + rm.slots ≤ R.slots) (hq : pc + 3 = q)
    (k : ∀ T' v L, Stand p l e R s m args below meth c T' (locs ++ L) (cells + rm.cells) (slots + rm.slots) → Q' v T'.heap L → Go p e below P T' (mkF m q Ls (v.toList ++ rest))) : Go p e below P T (mkF m pc Ls S) := by
  subst hq has hst
  obtain ⟨cq, kq, qa, qb, qc⟩ := isOf K.z eT E
  obtain ⟨v, _, ⟨T1, L1, k1, n1⟩, -, X1, ⟨Lc, hQ, l1, y1, z1⟩, st⟩ := X.virtualBackUp K.x (x := y') (y := z') K.own (mvT K.z w1) (mvT K.z w0) (mvT K.z w2) hy (mvT K.z w5) (mvT K.z w6) (backOf (W := W) hM K.z w4 w3 hf hl) qa qc (g := mkF m pc Ls (argsL.reverse ++ .ref a :: rest)) rfl (by rw [K.ml]; exact hsz) (Steps.refl _) (argsL := argsL) (rest := rest) hlen rfl (by show 2 * 0 + _ ≤ _; omega) (K.d hd) (fun _ _ => ⟨rfl, eT, hc, hs⟩)
  dsimp only [Pt.U, Pt.locs, Pt.cells, Pt.slots] at X1 l1 y1 z1 st hQ
  subst l1 y1 z1
  exact Go.tr st (k T1 v Lc X1 hQ)
theorem g_face {a : Addr} {C : String} {z' : MethodName} {cnt : Nat} (X : Stand p l e R s m args below meth c T locs cells slots) (K : Kt p Z s m meth c y bytes maxL ret) (w1 : (Jvm.Cond.methodLink y.cls index y').before a0 Z = true) (w2 : (Jvm.Cond.declares y').before a0 Z = true) (wf : (Jvm.Cond.interfaceMethod y'.cls y'.cls y'.name y'.desc).before args s = true) (w5 : (Jvm.Cond.selects C y' z').before a0 Z = true) (w6 : (Jvm.Cond.instanceMethod z').before a0 Z = true) (wp : (Jvm.Cond.publicMethod z').before a0 Z = true) (wu : (Jvm.Cond.unhidden C y'.name y'.desc).before a0 Z = true) (wca : (Jvm.Cond.castable C y'.cls).before a0 Z = true) (w3 : (Jvm.Cond.initialized z'.cls).before a0 Z = true) (w4 : (Jvm.Cond.code z' bytes' maxL' ret').before a0 Z = true) (hy : y'.cls ≠ "java/lang/invoke/MethodHandle" ∧ y'.cls ≠ "java/lang/invoke/VarHandle")
    (hM : Mt l Z z' bytes' maxL' ret' [] rm as' h Q') (eT : T.heap = h) (E : Exa Z h a C) (hsz : Ls.size = maxL) (hlen : ∀ sig, parseMethodDescriptor y'.desc = some sig → argsL.length = sig.parameters.length) (hst : S = argsL.reverse ++ .ref a :: rest) (has : (Value.ref a :: argsL).toArray = as') (hW : (rest.map fun v => v.category).sum ≤ W) (hd : decode bytes pc = .ok (.invokeinterface index cnt, 5))
    (hf : rm.frames + 1 ≤ R.frames) (hl : W + (maxL' + 11) + rm.locals ≤ R.locals) (hc : cells + rm.cells ≤ R.cells) (hs : slots + rm.slots ≤ R.slots) (hq : pc + 5 = q)
    (k : ∀ T' v L, Stand p l e R s m args below meth c T' (locs ++ L) (cells + rm.cells) (slots + rm.slots) → Q' v T'.heap L → Go p e below P T' (mkF m q Ls (v.toList ++ rest))) : Go p e below P T (mkF m pc Ls S) := by
  subst hq has hst
  obtain ⟨cq, kq, qa, qb, qc⟩ := isOf K.z eT E
  obtain ⟨v, _, ⟨T1, L1, k1, n1⟩, -, X1, ⟨Lc, hQ, l1, y1, z1⟩, st⟩ := X.interfaceBack K.x (xi := y') (y := z') K.own (mvT K.z w1) (mvT K.z w2) wf (mvT K.z w5) (mvT K.z w6) (mvT K.z wp) (mvT K.z wu) (mvT K.z wca) hy (backOf (W := W) hM K.z w4 w3 hf hl) qa qb qc (g := mkF m pc Ls (argsL.reverse ++ .ref a :: rest)) rfl (by rw [K.ml]; exact hsz) (Steps.refl _) (argsL := argsL) (rest := rest) hlen rfl (by show 2 * 0 + _ ≤ _; omega) (K.d hd) (fun _ _ => ⟨rfl, eT, hc, hs⟩)
  dsimp only [Pt.U, Pt.locs, Pt.cells, Pt.slots] at X1 l1 y1 z1 st hQ
  subst l1 y1 z1
  exact Go.tr st (k T1 v Lc X1 hQ)
theorem nf_self {C : String} (K : Kt p Z s m meth c y bytes maxL ret) (w : (Jvm.Cond.selects C y' y').before a0 Z = true) : NotFace s y' := notFace_of_selects (args := #[]) (mvT K.z w)
end Heap
end Own
section Start
variable {Z : State} {a0 : Array Value} {t u : Jvm.Term} {n : Int32} {a : Addr} {ty : FieldType} {vs : List Value} {dv v : Value}
def adOf (C n d : String) (Z : State) (a0 : Array Value) : Addr := match (Jvm.Term.static C n d).eval a0 Z none [] Z with | some (.ref a) => a | _ => 0
theorem own_ad {C n d : String} (h : ∃ x, (Jvm.Term.static C n d).eval a0 Z none [] Z = some (.ref x)) : (Jvm.Term.static C n d).eval a0 Z none [] Z = some (.ref (adOf C n d Z a0)) := by
  obtain ⟨x, hx⟩ := h; simp only [adOf, hx]
theorem own_eqint (h : (Jvm.Cond.eq t (.int n)).value a0 Z none Z [] = some true) : t.eval a0 Z none [] Z = some (.int n) := by
  obtain ⟨x, y, h1, h2, h3, -⟩ := cmp_v (Or.inl h)
  cases h2
  cases x <;> first | (simp [Kin, Value.isRef] at h3; done) | skip
  rw [h1]
  have q := gotT (Cond.eq_ints h1 rfl) h
  rw [q]
theorem own_eqref (h : (Jvm.Cond.eq t u).value a0 Z none Z [] = some true) (hu : u.eval a0 Z none [] Z = some (.ref a)) : t.eval a0 Z none [] Z = some (.ref a) := by
  obtain ⟨x, y, h1, h2, h3, h4⟩ := cmp_v (Or.inl h)
  cases h2.symm.trans hu
  have hx : x.isRef = true := by cases x <;> first | rfl | exact h3.1 | (simp [Kin] at h3; done)
  have q := gotT (eq_R h1 hu hx rfl) h
  rw [h1, q]
def kaOf (Z : State) (a : Addr) : ClassId := match Z.heap[a]? with | some c => c.cls | none => 0
theorem own_len (h : (Jvm.Term.length t).eval a0 Z none [] Z = some (.int n)) (ht : t.eval a0 Z none [] Z = some (.ref a)) : ∃ cl : Cell, Z.heap[a]? = some cl ∧ cl.slots.size < 2 ^ 31 ∧ cl.slots.size.toInt32 = n := by
  obtain ⟨a', cl, h1, h2, h3⟩ := Term.length_spec h
  cases ht.symm.trans h1
  refine ⟨cl, (State.arrayAt?_spec h2).1, ?_, by cases h3; rfl⟩
  by_cases q : cl.slots.size < 2147483648
  · exact q
  · simp [Term.eval, ht, h2, q] at h
theorem own_arv (hf : Fit Z) (ht : t.eval a0 Z none [] Z = some (.ref a)) (ha : (Jvm.Cond.arrayOf t ty).value a0 Z none Z [] = some true) (hl : (Jvm.Cond.eq (Jvm.Term.length t) (.int n)).value a0 Z none Z [] = some true) (hn : ¬ n < 0) (hv : n.toNatClampNeg = vs.length) (he : ∀ cl : Cell, Z.heap[a]? = some cl → HasL cl 0 vs) : Arv Z Z.heap a (kaOf Z a) ty n vs dv := by
  obtain ⟨cl, A⟩ := Arr.start ht ha
  obtain ⟨cl', h1, h2, h3⟩ := own_len (own_eqint hl) ht
  cases A.1.symm.trans h1
  have e : kaOf Z a = cl.cls := by simp only [kaOf, A.1]
  rw [e]
  exact Arv.start hf A h2 h3 hn hv (he cl A.1)
theorem own_el {j : Int32} {i : Nat} {cl : Cell} (h : (Jvm.Term.elem t (.int j)).eval a0 Z none [] Z = some v) (ht : t.eval a0 Z none [] Z = some (.ref a)) (hc : Z.heap[a]? = some cl) (hi : j.toNatClampNeg = i) : cl.slots[i]? = some v := by
  subst hi; exact (elem_in h ht (Term.int_eval j) hc).2
theorem own_lit {z k : Int32} {i : Int} (h : z.toInt = i) (hk : k.toInt = i) : z = k := Int32.toInt_inj.mp (h.trans hk.symm)
theorem own_max (x : Int32) : 0 ≤ (x &&& 2147483647).toInt := (c_andS x 2147483647).2.2 (by decide)
theorem own_rem (x : Int32) {n : Int32} {k : Int} (hk : n.toInt = k) (h0 : 0 < k) : 0 ≤ ((x &&& 2147483647) % n).toInt ∧ ((x &&& 2147483647) % n).toInt < k := by
  rw [(c_irem (x &&& 2147483647) n k hk).1 (own_max x)]
  exact ⟨Int.emod_nonneg _ (by omega), Int.emod_lt_of_pos _ h0⟩
variable {x k : Int32} {m : Int}
theorem own_ltI (hk : k.toInt = m) (h : x.toInt < m) : x < k := by rw [Int32.lt_iff_toInt_lt, hk]; exact h
theorem own_nltI (hk : k.toInt = m) (h : ¬ x.toInt < m) : ¬ (x < k) := by rw [Int32.lt_iff_toInt_lt, hk]; exact h
theorem own_gtI (hk : k.toInt = m) (h : m < x.toInt) : k < x := by rw [Int32.lt_iff_toInt_lt, hk]; exact h
theorem own_ngtI (hk : k.toInt = m) (h : ¬ m < x.toInt) : ¬ (k < x) := by rw [Int32.lt_iff_toInt_lt, hk]; exact h
theorem own_eqI (hk : k.toInt = m) (h : x.toInt = m) : x = k := own_lit h hk
theorem own_neI (hk : k.toInt = m) (h : x.toInt ≠ m) : ¬ (x = k) := fun q => h (by rw [q]; exact hk)
theorem own_ltE (hk : k.toInt = m) (h : x < k) : x.toInt < m := by rw [Int32.lt_iff_toInt_lt, hk] at h; exact h
theorem own_nltE (hk : k.toInt = m) (h : ¬ (x < k)) : ¬ x.toInt < m := by rw [Int32.lt_iff_toInt_lt, hk] at h; exact h
theorem own_gtE (hk : k.toInt = m) (h : k < x) : m < x.toInt := by rw [Int32.lt_iff_toInt_lt, hk] at h; exact h
theorem own_ngtE (hk : k.toInt = m) (h : ¬ (k < x)) : ¬ m < x.toInt := by rw [Int32.lt_iff_toInt_lt, hk] at h; exact h
theorem own_eqE (hk : k.toInt = m) (h : x = k) : x.toInt = m := by rw [h]; exact hk
theorem own_neE (hk : k.toInt = m) (h : ¬ (x = k)) : x.toInt ≠ m := fun q => h (own_lit q hk)
theorem own_some {a b : Int32} (h : a = b) : some (Value.int a) = some (Value.int b) := by rw [h]
theorem own_if1 {P : Prop} [Decidable P] (h : P) : (1 : Int32) = if P then 1 else 0 := (if_pos h).symm
theorem own_if0 {P : Prop} [Decidable P] (h : ¬ P) : (0 : Int32) = if P then 1 else 0 := (if_neg h).symm
theorem own_nar {P : Prop} [Decidable P] : nar .boolean (if P then (1 : Int32) else 0) = if P then 1 else 0 := by split <;> rfl
end Start
theorem av0 {P : Value → Prop} : ∀ u ∈ ([] : List Value), P u := fun _ q => nomatch q
theorem avS {P : Value → Prop} {y : Value} {L : List Value} (q : P y) (r : ∀ u ∈ L, P u) : ∀ u ∈ y :: L, P u := fun u z => (List.mem_cons.mp z).elim (fun e => e ▸ q) (r u)
theorem kaS {L ws : List Addr} {n : Nat} {y : Addr} (q : y ∈ L ∨ n ≤ y) (r : ∀ x ∈ ws, x ∈ L ∨ n ≤ x) : ∀ x ∈ y :: ws, x ∈ L ∨ n ≤ x := allS (P := fun x => x ∈ L ∨ n ≤ x) q r
def Lq (Z : State) (a0 : Array Value) (K O n d : String) (t : FieldType) : Prop := Laid Z a0 K O n d ∧ parseFieldDescriptor d = some t
theorem lne {Z : State} {a0 : Array Value} {K O n d O' n' d' : String} {t t' : FieldType} (L : Lq Z a0 K O n d t) (L' : Lq Z a0 K O' n' d' t') (hn : n ≠ n') : Jvm.RoadKit.slotOf Z O n d ≠ Jvm.RoadKit.slotOf Z O' n' d' := slot_ne L.1 L'.1 hn L.2 L'.2
/-! the newborn ones by age, and ways over many steps at once -/
def Sd (L : List Addr) : Prop := L.Pairwise (fun x y => y < x)
theorem Sd.one (a : Addr) : Sd [a] := List.pairwise_singleton _ _
theorem Sd.cons {L : List Addr} {x y : Addr} (S : Sd (x :: L)) (q : x < y) : Sd (y :: x :: L) := by
  refine List.pairwise_cons.mpr ⟨fun z hz => ?_, S⟩
  rcases List.mem_cons.mp hz with rfl | hz
  · exact q
  · exact Nat.lt_trans ((List.pairwise_cons.mp S).1 z hz) q
theorem Sd.lt {L : List Addr} {x y : Addr} (S : Sd L) (i j : Nat) (hi : L[i]? = some x) (hj : L[j]? = some y) (h : Nat.blt i j = true) : y < x := by
  obtain ⟨h1, rfl⟩ := List.getElem?_eq_some_iff.mp hi
  obtain ⟨h2, rfl⟩ := List.getElem?_eq_some_iff.mp hj
  exact List.pairwise_iff_getElem.mp S i j h1 h2 (Nat.le_of_ble_eq_true h)
theorem Sd.ne {L : List Addr} {x y : Addr} (S : Sd L) (i j : Nat) (hi : L[i]? = some x) (hj : L[j]? = some y) (h : Nat.beq i j = false) : x ≠ y := by
  rcases Nat.lt_or_gt_of_ne (fun q : i = j => by subst q; simp at h) with q | q
  · exact Nat.ne_of_gt (S.lt i j hi hj (Nat.ble_eq_true_of_le q))
  · exact Nat.ne_of_lt (S.lt j i hj hi (Nat.ble_eq_true_of_le q))
theorem Sd.nin {L ws : List Addr} {x : Addr} (S : Sd L) (i : Nat) (js : List Nat) (hi : L[i]? = some x) (hj : js.map (fun j => L[j]?) = ws.map some) (h : js.all (fun j => !Nat.beq i j) = true) : x ∉ ws := fun hx => by
  have q : some x ∈ ws.map some := List.mem_map.mpr ⟨x, hx, rfl⟩
  rw [← hj] at q
  obtain ⟨j, j1, j2⟩ := List.mem_map.mp q
  exact S.ne i j hi j2 (by simpa using List.all_eq_true.mp h j j1) rfl
theorem Keep.ofE {h h' : Heap} (E : Ext h h') : Keep h h' [] := (Keep.refl h []).ext E
theorem wsub {ws1 ws : List Addr} (is : List Nat) (h : is.map (fun i => ws[i]?) = ws1.map some) : ∀ x ∈ ws1, x ∈ ws := fun x hx => by
  have q : some x ∈ ws1.map some := List.mem_map.mpr ⟨x, hx, rfl⟩
  rw [← h] at q
  obtain ⟨i, -, j2⟩ := List.mem_map.mp q
  exact List.mem_of_getElem? j2
theorem Keep.cat {h h1 h2 : Heap} {ws1 ws2 : List Addr} (K : Keep h h1 ws1) (K' : Keep h1 h2 ws2) (ws : List Addr) (is js : List Nat) (hi : is.map (fun i => ws[i]?) = ws1.map some) (hj : js.map (fun i => ws[i]?) = ws2.map some) : Keep h h2 ws :=
  Keep.trans (ws := ws) ⟨K.1, fun x c q r => K.2.1 x c q fun z => r (wsub is hi x z), K.2.2⟩ K' fun x z => Or.inl (wsub js hj x z)
section Own3
variable {p : Program} {l : Launch} {e : Env} {R : Room} {s : State} {m : MethodId} {args : Array Value} {below : List Frame} {meth : Method} {c : Code} {T T' : State} {locs : List Loc} {cells slots : Nat} {Z : State} {a0 : Array Value} {h : Heap} {P : State → Prop} {pc q : Nat} {Ls : Array Slot} {S : List Value} {g g' : JFrame}
variable {y : MethodName} {bytes : ByteArray} {maxL : Nat} {ret : Option FieldType} {Q : Option Value → Heap → List Loc → Prop}
theorem ivW {h0 h' : Heap} {n sl : Nat} {ws : List Addr} {a : Addr} {v : Value} (N : Fr n locs) (O : Old Z n h) (K : Keep h0 h ws) (X : Stand p l e R s m args below meth c T (locs ++ [⟨a, sl⟩]) cells slots) (W : Wr h h' a sl v) (g : n ≤ a) (q : a ∈ ws ∨ h0.size ≤ a) : Fr n (locs ++ [⟨a, sl⟩]) ∧ Old Z n h' ∧ Keep h0 h' ws := ⟨Fr.snoc X N g, O.wr W g, K.wr W q⟩
theorem ivE {h0 h' : Heap} {ws : List Addr} {a : Addr} (O : Old Z Z.heap.size h) (K : Keep h0 h ws) (E : Ext h h') (z : h.size = a) : h0.size ≤ a ∧ Z.heap.size ≤ a ∧ Old Z Z.heap.size h' ∧ Keep h0 h' ws := ⟨Nat.le_trans K.1 (Nat.le_of_eq z), Nat.le_trans O.2.1 (Nat.le_of_eq z), O.ext E, K.ext E⟩
theorem ivK {h0 h' : Heap} {n : Nat} {ws ws' : List Addr} {L : List Loc} (N : Fr n locs) (O : Old Z n h) (K : Keep h0 h ws) (N' : Fr n L) (C : Keep h h' ws') (g : ∀ x ∈ ws', n ≤ x) (q : ∀ x ∈ ws', x ∈ ws ∨ h0.size ≤ x) : Fr n (locs ++ L) ∧ Old Z n h' ∧ Keep h0 h' ws := ⟨Fr.app N N', O.keep C g, K.trans C q⟩
/-! own3: more instructions -/
theorem g_getfN {index : Nat} {C O n d host : String} {a : Addr} {v : Value} (X : Stand p l e R s m args below meth c T locs cells slots) (K : Kt p Z s m meth c y bytes maxL ret) (w : (Jvm.Cond.fieldLinkNest y.cls index C n d host).before a0 Z = true) (via : Via Z C O n d) (eT : T.heap = h) (F : Fld Z h a O n d v) (hd : decode bytes pc = .ok (.getfield index, 3)) (hq : pc + 3 = q)
    (k : ∀ T', Stand p l e R s m args below meth c T' locs cells slots → T'.heap = h → Go p e below P T' (mkF m q Ls (v :: S))) : Go p e below P T (mkF m pc Ls (.ref a :: S)) := by
  subst hq
  obtain ⟨T1, X1, e1, st⟩ := getF X K.x K.z K.own (host := host) (Or.inr w) via eT F (g := mkF m pc Ls (.ref a :: S)) rfl rfl (K.d hd)
  exact Go.by_ st (k T1 X1 e1)
theorem g_getsN {index : Nat} {C n d host : String} {v : Value} (X : Stand p l e R s m args below meth c T locs cells slots) (K : Kt p Z s m meth c y bytes maxL ret) (w : (Jvm.Cond.fieldLinkNest y.cls index C n d host).before a0 Z = true) (eT : T.heap = h) (F : Sta Z h C n d v) (hd : decode bytes pc = .ok (.getstatic index, 3)) (hq : pc + 3 = q)
    (k : ∀ T', Stand p l e R s m args below meth c T' locs cells slots → T'.heap = h → Go p e below P T' (mkF m q Ls (v :: S))) : Go p e below P T (mkF m pc Ls S) := by
  subst hq
  obtain ⟨T1, X1, e1, st⟩ := getS2 X K.x K.z (host := host) K.own (Or.inr w) Via.refl eT F (g := mkF m pc Ls S) rfl (K.d hd)
  exact Go.by_ st (k T1 X1 e1)
theorem g_instY {index : Nat} {C : String} {a : Addr} (X : Stand p l e R s m args below meth c T locs cells slots) (K : Kt p Z s m meth c y bytes maxL ret) (w : (Jvm.Cond.classLink y.cls index C).before a0 Z = true) (eT : T.heap = h) (F : Ins Z h a C true) (hd : decode bytes pc = .ok (.instanceof index, 3)) (hq : pc + 3 = q)
    (k : ∀ T', Stand p l e R s m args below meth c T' locs cells slots → T'.heap = h → Go p e below P T' (mkF m q Ls (.int 1 :: S))) : Go p e below P T (mkF m pc Ls (.ref a :: S)) := by
  subst hq
  obtain ⟨T1, X1, e1, st⟩ := instY X K.x K.z K.own w eT F (g := mkF m pc Ls (.ref a :: S)) rfl rfl (K.d hd)
  exact Go.by_ st (k T1 X1 e1)
theorem g_instN {index : Nat} {C D : String} {a : Addr} (X : Stand p l e R s m args below meth c T locs cells slots) (K : Kt p Z s m meth c y bytes maxL ret) (w : (Jvm.Cond.classLink y.cls index C).before a0 Z = true) (eT : T.heap = h) (E : Exa Z h a D) (F : ∃ c t, Z.vm.findClass D = some c ∧ Z.vm.findClass C = some t ∧ Z.vm.assignable c t = false) (hd : decode bytes pc = .ok (.instanceof index, 3)) (hq : pc + 3 = q)
    (k : ∀ T', Stand p l e R s m args below meth c T' locs cells slots → T'.heap = h → Go p e below P T' (mkF m q Ls (.int 0 :: S))) : Go p e below P T (mkF m pc Ls (.ref a :: S)) := by
  subst hq
  obtain ⟨T1, X1, e1, st⟩ := instNo X K.x K.z K.own w eT E F (g := mkF m pc Ls (.ref a :: S)) rfl rfl (K.d hd)
  exact Go.by_ st (k T1 X1 e1)
theorem g_ldcF (X : Stand p l e R s m args below meth c T locs cells slots) (K : Kt p Z s m meth c y bytes maxL ret) {index : Nat} {b : UInt32} (w : (Jvm.Cond.constantFloat y.cls index b).before a0 Z = true) (hd : decode bytes pc = .ok (.ldc index, 2)) (hq : pc + 2 = q) (h : Go p e below P T (mkF m q Ls (.float b :: S))) : Go p e below P T (mkF m pc Ls S) := by
  subst hq; exact Go.by_ (fun t k => X.ldcFloatC K.x K.own (mvT K.z w) (g := mkF m pc Ls S) rfl (K.d hd) _ k) h
theorem g_lswHit (X : Stand p l e R s m args below meth c T locs cells slots) (K : Kt p Z s m meth c y bytes maxL ret) {dflt : Int} {ps : Array (Int × Int)} {len : Nat} {a o : Int} {i : Int32} (hd : decode bytes pc = .ok (.lookupswitch dflt ps, len)) (hso : (ps.toList.zip (ps.toList.drop 1)).all (fun (a, next) => a.1 < next.1) = true) (hf : ps.find? (·.1 == i.toInt) = some (a, o)) (ho : 0 ≤ (pc : Int) + o) (hq : ((pc : Int) + o).toNat = q) (h : Go p e below P T (mkF m q Ls S)) : Go p e below P T (mkF m pc Ls (.int i :: S)) := by
  subst hq; exact Go.by_ (fun t k => X.lookupswitchHit K.x (g := mkF m pc Ls (.int i :: S)) rfl rfl (K.d hd) hso hf ho _ k) h
theorem g_lswMiss (X : Stand p l e R s m args below meth c T locs cells slots) (K : Kt p Z s m meth c y bytes maxL ret) {dflt : Int} {ps : Array (Int × Int)} {len : Nat} {i : Int32} (hd : decode bytes pc = .ok (.lookupswitch dflt ps, len)) (hso : (ps.toList.zip (ps.toList.drop 1)).all (fun (a, next) => a.1 < next.1) = true) (hf : ps.find? (·.1 == i.toInt) = none) (ho : 0 ≤ (pc : Int) + dflt) (hq : ((pc : Int) + dflt).toNat = q) (h : Go p e below P T (mkF m q Ls S)) : Go p e below P T (mkF m pc Ls (.int i :: S)) := by
  subst hq; exact Go.by_ (fun t k => X.lookupswitchMiss K.x (g := mkF m pc Ls (.int i :: S)) rfl rfl (K.d hd) hso hf ho _ k) h
/-! mirrors -/
def MirA (Z : State) (C : String) (a : Addr) : Prop := ∃ (c : ClassId) (k : Class), Z.vm.findClass C = some c ∧ Z.vm.classes[c]? = some k ∧ k.mirror = some a
def mrOf (Z : State) (C : String) : Addr := match Z.vm.findClass C with | some c => (match Z.vm.classes[c]? with | some k => k.mirror.getD 0 | none => 0) | none => 0
theorem mrA {C : String} (h : ∃ (c : ClassId) (k : Class) (m : Addr), Z.vm.findClass C = some c ∧ Z.vm.classes[c]? = some k ∧ k.mirror = some m) : MirA Z C (mrOf Z C) := by
  obtain ⟨c, k, m, h1, h2, h3⟩ := h
  exact ⟨c, k, h1, h2, by simp [mrOf, h1, h2, h3]⟩
theorem g_gcls {index W : Nat} {C : String} {a mr : Addr} (X : Stand p l e R s m args below meth c T locs cells slots) (K : Kt p Z s m meth c y bytes maxL ret) (w1 : (Jvm.Cond.methodLink y.cls index Jvm.Stand.gcN).before a0 Z = true) (w2 : (Jvm.Cond.declares Jvm.Stand.gcN).before a0 Z = true) (w3 : (Jvm.Cond.noSuperclass "java/lang/Object").before a0 Z = true) (w4 : (Jvm.Cond.selects C Jvm.Stand.gcN Jvm.Stand.gcN).before a0 Z = true) (w5 : (Jvm.Cond.instanceMethod Jvm.Stand.gcN).before a0 Z = true) (w6 : (Jvm.Cond.native Jvm.Stand.gcN).before a0 Z = true) (eT : T.heap = h) (E : Exa Z h a C) (M : MirA Z C mr) (hsz : Ls.size = maxL) (hd : decode bytes pc = .ok (.invokevirtual index, 3)) (hf : 1 ≤ R.frames) (hW : (S.map fun v => v.category).sum ≤ W) (hl : W + 14 ≤ R.locals) (hq : pc + 3 = q)
    (k : ∀ T', Stand p l e R s m args below meth c T' locs cells slots → T'.heap = h → Go p e below P T' (mkF m q Ls (.ref mr :: S))) : Go p e below P T (mkF m pc Ls (.ref a :: S)) := by
  subst hq
  obtain ⟨cB, kB, i1, i2, i3⟩ := isOf K.z eT E
  obtain ⟨cc, kc, m1, m2, m3⟩ := M
  rw [K.z.alike.findClass] at i1
  cases i1.symm.trans m1
  obtain ⟨k', hk', ek⟩ := K.z.alike.2.2 _ _ m2
  obtain ⟨vm', X', st⟩ := X.getClassOf K.x K.own (mvT K.z w1) (mvT K.z w2) (nf_top (args := #[]) (mvT K.z w3)) (mvT K.z w4) (mvT K.z w5) (mvT K.z w6) (by rw [K.z.alike.findClass]; exact m1) i3 hk' (by rw [ek]; exact m3) (g := mkF m pc Ls (.ref a :: S)) rfl (by rw [K.ml]; exact hsz) rfl (K.d hd) hf (by rw [show nativeFrameWords "java/lang/Object" "getClass" 1 = 3 from by decide]; show 2 * 0 + _ + _ ≤ _; omega)
  exact Go.by_ st (k _ X' eT)
theorem g_ldcM {index : Nat} {C : String} {mr : Addr} (X : Stand p l e R s m args below meth c T locs cells slots) (K : Kt p Z s m meth c y bytes maxL ret) (w : (Jvm.Cond.classLink y.cls index C).before a0 Z = true) (M : MirA Z C mr) (eT : T.heap = h) (hd : decode bytes pc = .ok (.ldc index, 2)) (hq : pc + 2 = q)
    (k : ∀ T', Stand p l e R s m args below meth c T' locs cells slots → T'.heap = h → Go p e below P T' (mkF m q Ls (.ref mr :: S))) : Go p e below P T (mkF m pc Ls S) := by
  subst hq
  obtain ⟨cc, kc, m1, m2, m3⟩ := M
  obtain ⟨k', hk', ek⟩ := K.z.alike.2.2 _ _ m2
  have ev : (Term.mirror C).eval args s none [] s = some (.ref mr) := by
    have f1 : s.vm.findClass C = some cc := by rw [K.z.alike.findClass]; exact m1
    have f3 : k'.mirror = some mr := by rw [ek]; exact m3
    simp [Term.eval, f1, hk', f3]
  obtain ⟨vm', X', st⟩ := X.ldcMirror K.x K.own (mv K.z w) ev (g := mkF m pc Ls S) rfl (K.d hd)
  exact Go.by_ st (k _ X' eT)
/-! arrays of references that know their class -/
theorem g_newrE {index : Nat} {C ad : String} {n : Int32} {cap : Nat} {vs : List Value} (X : Stand p l e R s m args below meth c T locs cells slots) (K : Kt p Z s m meth c y bytes maxL ret) (had : "[" ++ (FieldType.object C).toString = ad) (w : (Jvm.Cond.classLink y.cls index C).before a0 Z = true) (w2 : (Jvm.Cond.arrayOver (.object C)).before a0 Z = true) (eT : T.heap = h) (hd : decode bytes pc = .ok (.anewarray index, 3)) (hn : ¬ n < 0) (hcap : n.toNatClampNeg ≤ cap) (hvs : List.replicate cap Value.null = vs) (hb : cap * 8 ≤ 536870912) (hc : cells + 1 ≤ R.cells) (hl : slots + cap ≤ R.slots) (hq : pc + 3 = q)
    (k : ∀ (T' : State) (h' : Heap) (a : Addr) (kA : ClassId), Stand p l e R s m args below meth c T' locs (cells + 1) (slots + cap) → T'.heap = h' → Ext h h' → h.size = a → Arv Z h' a kA (.object C) n vs .null → Ovr Z kA C → Exa Z h' a ad → Go p e below P T' (mkF m q Ls (.ref a :: S))) : Go p e below P T (mkF m pc Ls (.int n :: S)) := by
  subst hq hvs
  obtain ⟨T1, h1, kA, X1, e1, E1, A1, B1, O1, st⟩ := newRE X K.x K.z K.own w w2 eT (g := mkF m pc Ls (.int n :: S)) rfl (K.d hd) rfl hn hcap hb hc hl had
  exact Go.by_ st (k T1 h1 _ kA X1 e1 E1 rfl ((Arv.new A1 hn).pad (pad_rep [] _ cap)) O1 B1)
/-! arraycopy of references -/
theorem g_copyR {index W : Nat} {a b : Addr} {kA kB : ClassId} {C C' : String} {z z' nn : Int32} {vs vd us vr : List Value} {dv dd : Value} (X : Stand p l e R s m args below meth c T locs cells slots) (K : Kt p Z s m meth c y bytes maxL ret) (w1 : (Jvm.Cond.methodLink y.cls index Jvm.Stand.acN).before a0 Z = true) (w2 : (Jvm.Cond.native Jvm.Stand.acN).before a0 Z = true) (w3 : (Jvm.Cond.static Jvm.Stand.acN).before a0 Z = true) (w4 : (Jvm.Cond.initialized "java/lang/System").before a0 Z = true) (eT : T.heap = h)
    (A : Arv Z h a kA (.object C) z vs dv) (B : Arv Z h b kB (.object C') z' vd dd) (h3 : ¬ nn < 0) (h4 : nn.toNatClampNeg ≤ z.toNatClampNeg) (h5 : nn.toNatClampNeg ≤ z'.toNatClampNeg) (hus : (List.range nn.toNatClampNeg).map (fun i => vs.getD i dv) = us) (hS : ∀ u ∈ us, u = .null ∨ ∃ b, u = .ref b ∧ Ovr Z kB C' ∧ Ins Z h b C' true) (hl' : nn.toNatClampNeg ≤ vd.length) (hr : us ++ vd.drop nn.toNatClampNeg = vr) (N : Fr Z.heap.size locs) (ge : Z.heap.size ≤ b) (hsz : Ls.size = maxL) (hd : decode bytes pc = .ok (.invokestatic index, 3)) (hf : 1 ≤ R.frames) (hW : (S.map fun v => v.category).sum ≤ W) (hlo : W + (nativeFrameWords "java/lang/System" "arraycopy" 5 + 11) ≤ R.locals) (hq : pc + 3 = q)
    (k : ∀ T' h' L, Stand p l e R s m args below meth c T' L cells slots → T'.heap = h' → Fr Z.heap.size L → Keep h h' [b] → Arv Z h' b kB (.object C') z' vr dd → Go p e below P T' (mkF m q Ls S)) : Go p e below P T (mkF m pc Ls (.int nn :: .int 0 :: .ref b :: .int 0 :: .ref a :: S)) := by
  subst hq
  have z0 : (0 : Int32).toNatClampNeg = 0 := rfl
  obtain ⟨cB, Ar, q1, -⟩ := id B
  have hst : StoL Z h b us := by
    clear hus hr
    induction us with
    | nil => trivial
    | cons u r ih =>
      refine ⟨?_, ih fun v hv => hS v (List.mem_cons_of_mem _ hv)⟩
      rcases hS u (List.mem_cons_self ..) with rfl | ⟨b', rfl, O, I⟩
      · exact Or.inl rfl
      · exact Sto.ofV Ar q1 O I
  obtain ⟨T1, h1, L1, X1, e1, N1, K1, A1, st⟩ := cpA X K.x K.z K.own w1 w2 w3 w4 eT A B (us := us) (Or.inr ⟨rfl, rfl, hst⟩) (by decide : ¬ (0 : Int32) < 0) (by decide : ¬ (0 : Int32) < 0) h3 (by rw [z0]; omega) (by rw [z0]; omega) (by rw [← hus]; simp [z0]) (by rw [z0]; omega) N ge (g := mkF m pc Ls (.int nn :: .int 0 :: .ref b :: .int 0 :: .ref a :: S)) rfl (by rw [K.ml]; exact hsz) rfl (K.d hd) hf (W := W) (by show 2 * 0 + _ ≤ _; omega) hlo
  refine Go.by_ st (k T1 h1 L1 X1 e1 N1 K1 ?_)
  rw [z0, List.take_zero, List.nil_append, Nat.zero_add, hr] at A1
  exact A1
/-! an element of an array of which a part is told -/
theorem g_aaldC {a : Addr} {ty : FieldType} {j : Int32} {v : Value} (X : Stand p l e R s m args below meth c T locs cells slots) (K : Kt p Z s m meth c y bytes maxL ret) (eT : T.heap = h) (A : ∃ cl, Arr Z h a cl ty ∧ ¬ (j < 0 ∨ cl.slots.size ≤ j.toNatClampNeg) ∧ cl.slots[j.toNatClampNeg]? = some v) (hty : ty.isReference = true) (hd : decode bytes pc = .ok (.aaload, 1)) (hq : pc + 1 = q) (k : Go p e below P T (mkF m q Ls (v :: S))) : Go p e below P T (mkF m pc Ls (.int j :: .ref a :: S)) := by
  subst hq
  obtain ⟨cl, Ar, hin, hat⟩ := A
  exact Go.by_ (fun t k => X.aaload K.x (by rw [eT]; exact Ar.1) (State.isArrayOf_alike K.z.alike Ar.2.1) hty Ar.2.2 hin hat (g := mkF m pc Ls (.int j :: .ref a :: S)) rfl rfl (K.d hd) _ k) k
/-! bodies with an exception table -/
def MtW (l : Launch) (Z : State) (y : MethodName) (bytes : ByteArray) (maxL : Nat) (ret : Option FieldType) (hs : List (Nat × Nat × Nat × Nat)) (rm : Room) (as' : Array Value) (h0 : Heap) (Q : Option Value → Heap → List Loc → Prop) : Prop :=
  MetFree l y (head1 [Jvm.Cond.codeWith y bytes maxL ret hs] rm) (fun a U => a = as' ∧ Z.Warmed39 U.vm ∧ U.heap = h0) (fun _ _ _ _ _ => True) (fun _ U o U' => ∃ v L, o = .returned v ∧ Q v U'.heap L ∧ FrameEnd U o U' L rm.cells rm.slots)
theorem g_bodyW {hs : List (Nat × Nat × Nat × Nat)} {rm : Room} {as' : Array Value} {h0 : Heap} (hpl : plainFor y = true)
    (H : ∀ (p : Program) (e : Env) (s : State) (m : MethodId) (below : List Frame) (meth : Method) (c : Code) (T : State), Kt p Z s m meth c y bytes maxL ret → Stand p l e rm s m as' below meth c T [] 0 0 → T.heap = h0 → Go p e below (Done s below Q rm.cells rm.slots) T (entryFrame m as' maxL)) :
    MtW l Z y bytes maxL ret hs rm as' h0 Q := by
  refine MetFree.of_bodySF hpl hisWith ?_
  intro p e s m args below meth c s₁ Bd hml0 hP hK
  obtain ⟨rfl, hZ, hh⟩ := hP
  obtain ⟨n, a, o, b1, b2, b3⟩ := H p e s m below meth c s₁ ⟨Bd.exec, hZ, Bd.bytes, hml0, findClass_of_methodNamed Bd.named, Bd.returns, BodyLoose.notSynchronized Bd, (name_of_methodNamed Bd.named Bd.method).1, Bd.named⟩ (Stand.of_body Bd) (by rw [← hh, Bd.state]; rfl)
  exact ⟨n, o, a, b1, b2, b3⟩
variable {y' : MethodName} {bytes' : ByteArray} {maxL' : Nat} {ret' : Option FieldType} {rm : Room} {as' : Array Value} {Q' : Option Value → Heap → List Loc → Prop} {index : Nat} {argsL rest : List Value} {W : Nat}
theorem g_faceW {a : Addr} {C : String} {z' : MethodName} {cnt : Nat} {hs' : List (Nat × Nat × Nat × Nat)} (X : Stand p l e R s m args below meth c T locs cells slots) (K : Kt p Z s m meth c y bytes maxL ret) (w1 : (Jvm.Cond.methodLink y.cls index y').before a0 Z = true) (w2 : (Jvm.Cond.declares y').before a0 Z = true) (wf : (Jvm.Cond.interfaceMethod y'.cls y'.cls y'.name y'.desc).before args s = true) (w5 : (Jvm.Cond.selects C y' z').before a0 Z = true) (w6 : (Jvm.Cond.instanceMethod z').before a0 Z = true) (wp : (Jvm.Cond.publicMethod z').before a0 Z = true) (wu : (Jvm.Cond.unhidden C y'.name y'.desc).before a0 Z = true) (wca : (Jvm.Cond.castable C y'.cls).before a0 Z = true) (w3 : (Jvm.Cond.initialized z'.cls).before a0 Z = true) (w4 : (Jvm.Cond.codeWith z' bytes' maxL' ret' hs').before a0 Z = true) (hy : y'.cls ≠ "java/lang/invoke/MethodHandle" ∧ y'.cls ≠ "java/lang/invoke/VarHandle")
    (hM : MtW l Z z' bytes' maxL' ret' hs' rm as' h Q') (eT : T.heap = h) (E : Exa Z h a C) (hsz : Ls.size = maxL) (hlen : ∀ sig, parseMethodDescriptor y'.desc = some sig → argsL.length = sig.parameters.length) (hst : S = argsL.reverse ++ .ref a :: rest) (has : (Value.ref a :: argsL).toArray = as') (hW : (rest.map fun v => v.category).sum ≤ W) (hd : decode bytes pc = .ok (.invokeinterface index cnt, 5))
    (hf : rm.frames + 1 ≤ R.frames) (hl : W + (maxL' + 11) + rm.locals ≤ R.locals) (hc : cells + rm.cells ≤ R.cells) (hs : slots + rm.slots ≤ R.slots) (hq : pc + 5 = q)
    (k : ∀ T' v L, Stand p l e R s m args below meth c T' (locs ++ L) (cells + rm.cells) (slots + rm.slots) → Q' v T'.heap L → Go p e below P T' (mkF m q Ls (v.toList ++ rest))) : Go p e below P T (mkF m pc Ls S) := by
  subst hq has hst
  obtain ⟨cq, kq, qa, qb, qc⟩ := isOf K.z eT E
  obtain ⟨v, _, ⟨T1, L1, k1, n1⟩, -, X1, ⟨Lc, hQ, l1, y1, z1⟩, st⟩ := X.interfaceBack K.x (xi := y') (y := z') K.own (mvT K.z w1) (mvT K.z w2) wf (mvT K.z w5) (mvT K.z w6) (mvT K.z wp) (mvT K.z wu) (mvT K.z wca) hy (backOfWith (W := W) hM K.z w4 w3 hf hl) qa qb qc (g := mkF m pc Ls (argsL.reverse ++ .ref a :: rest)) rfl (by rw [K.ml]; exact hsz) (Steps.refl _) (argsL := argsL) (rest := rest) hlen rfl (by show 2 * 0 + _ ≤ _; omega) (K.d hd) (fun _ _ => ⟨rfl, eT, hc, hs⟩)
  dsimp only [Pt.U, Pt.locs, Pt.cells, Pt.slots] at X1 l1 y1 z1 st hQ
  subst l1 y1 z1
  exact Go.tr st (k T1 v Lc X1 hQ)
theorem g_specialN {a : Addr} {host : String} (X : Stand p l e R s m args below meth c T locs cells slots) (K : Kt p Z s m meth c y bytes maxL ret) (hy1 : y'.name = "<init>") (w1 : (Jvm.Cond.methodLinkNest y.cls index y' host).before a0 Z = true) (w2 : (Jvm.Cond.instanceMethod y').before a0 Z = true) (w3 : (Jvm.Cond.initialized y'.cls).before a0 Z = true) (w4 : (Jvm.Cond.code y' bytes' maxL' none).before a0 Z = true) (hy : y'.cls ≠ "java/lang/invoke/MethodHandle" ∧ y'.cls ≠ "java/lang/invoke/VarHandle")
    (hM : Mt l Z y' bytes' maxL' none [] rm as' h Q') (eT : T.heap = h) (hsz : Ls.size = maxL) (hlen : ∀ sig, parseMethodDescriptor y'.desc = some sig → argsL.length = sig.parameters.length) (hst : S = argsL.reverse ++ .ref a :: rest) (has : (Value.ref a :: argsL).toArray = as') (hW : (rest.map fun v => v.category).sum ≤ W) (hd : decode bytes pc = .ok (.invokespecial index, 3))
    (hf : rm.frames + 1 ≤ R.frames) (hl : W + (maxL' + 11) + rm.locals ≤ R.locals) (hc : cells + rm.cells ≤ R.cells) (hs : slots + rm.slots ≤ R.slots) (hq : pc + 3 = q)
    (k : ∀ T' v L, Stand p l e R s m args below meth c T' (locs ++ L) (cells + rm.cells) (slots + rm.slots) → Q' v T'.heap L → Go p e below P T' (mkF m q Ls (v.toList ++ rest))) : Go p e below P T (mkF m pc Ls S) := by
  subst hq has hst
  obtain ⟨v, _, ⟨T1, L1, k1, n1⟩, -, X1, ⟨Lc, hQ, l1, y1, z1⟩, st⟩ := X.specialBackNest K.x (y := y') hy1 K.own (Cond.methodLinkNest_wide K.z w1 :) (mvT K.z w2) (mvT K.z w4) hy (backOf (W := W) hM K.z w4 w3 hf hl) (g := mkF m pc Ls (argsL.reverse ++ .ref a :: rest)) rfl (by rw [K.ml]; exact hsz) (Steps.refl _) (a := a) (argsL := argsL) (rest := rest) hlen rfl (by show 2 * 0 + _ ≤ _; omega) (K.d hd) (fun _ _ => ⟨rfl, eT, hc, hs⟩)
  dsimp only [Pt.U, Pt.locs, Pt.cells, Pt.slots] at X1 l1 y1 z1 st hQ
  subst l1 y1 z1
  exact Go.tr st (k T1 v Lc X1 hQ)
theorem g_private {a : Addr} {C : String} (X : Stand p l e R s m args below meth c T locs cells slots) (K : Kt p Z s m meth c y bytes maxL ret) (w1 : (Jvm.Cond.methodLink y.cls index y').before a0 Z = true) (wpr : (Jvm.Cond.privateMethod y').before a0 Z = true) (w5 : (Jvm.Cond.selects y'.cls y' y').before a0 Z = true) (w6 : (Jvm.Cond.instanceMethod y').before a0 Z = true) (w3 : (Jvm.Cond.initialized y'.cls).before a0 Z = true) (w4 : (Jvm.Cond.code y' bytes' maxL' ret').before a0 Z = true) (hy : y'.cls ≠ "java/lang/invoke/MethodHandle" ∧ y'.cls ≠ "java/lang/invoke/VarHandle")
    (hM : Mt l Z y' bytes' maxL' ret' [] rm as' h Q') (eT : T.heap = h) (E : Exa Z h a C) (hsz : Ls.size = maxL) (hlen : ∀ sig, parseMethodDescriptor y'.desc = some sig → argsL.length = sig.parameters.length) (hst : S = argsL.reverse ++ .ref a :: rest) (has : (Value.ref a :: argsL).toArray = as') (hW : (rest.map fun v => v.category).sum ≤ W) (hd : decode bytes pc = .ok (.invokevirtual index, 3))
    (hf : rm.frames + 1 ≤ R.frames) (hl : W + (maxL' + 11) + rm.locals ≤ R.locals) (hc : cells + rm.cells ≤ R.cells) (hs : slots + rm.slots ≤ R.slots) (hq : pc + 3 = q)
    (k : ∀ T' v L, Stand p l e R s m args below meth c T' (locs ++ L) (cells + rm.cells) (slots + rm.slots) → Q' v T'.heap L → Go p e below P T' (mkF m q Ls (v.toList ++ rest))) : Go p e below P T (mkF m pc Ls S) := by
  subst hq has hst
  obtain ⟨cell, k0, c1, c2, c3, c4, -⟩ := E
  obtain ⟨v, _, ⟨T1, L1, k1, n1⟩, -, X1, ⟨Lc, hQ, l1, y1, z1⟩, st⟩ := X.privateBack K.x (y := y') K.own (mvT K.z w1) (mvT K.z w6) (mvT K.z w5) (Cond.privateMethod_at (args := #[]) (mvT K.z wpr)) (mvT K.z w4) hy (backOf (W := W) hM K.z w4 w3 hf hl) (g := mkF m pc Ls (argsL.reverse ++ .ref a :: rest)) rfl (by rw [K.ml]; exact hsz) (Steps.refl _) (a := a) (cell := cell) (by rw [eT]; exact c1) (fun q hq => by rw [hq] at c4; cases c4) (argsL := argsL) (rest := rest) hlen rfl (by show 2 * 0 + _ ≤ _; omega) (K.d hd) (fun _ _ => ⟨rfl, eT, hc, hs⟩)
  dsimp only [Pt.U, Pt.locs, Pt.cells, Pt.slots] at X1 l1 y1 z1 st hQ
  subst l1 y1 z1
  exact Go.tr st (k T1 v Lc X1 hQ)
/-! a class that isn't among another's superclasses, of an instantiable class -/
def NI (Z : State) (C K : String) : Prop := ∃ c t, Z.vm.findClass C = some c ∧ Z.vm.findClass K = some t ∧ ∀ fuel, Z.vm.isSubclassAux fuel c t = false
theorem NI.root {O K : String} {n : Nat} (w : (Jvm.Cond.noSuperclass O).before a0 Z = true) (wk : (Jvm.Cond.instantiable K n).before a0 Z = true) (hn : O ≠ K) : NI Z O K := by
  obtain ⟨c, k, h1, h2, h3, -, -⟩ := Cond.noSuperclass_spec w
  obtain ⟨t, kt, g1, -⟩ := Cond.instantiable_spec wk
  have ne := ids_ne h1 g1 hn
  refine ⟨c, t, h1, g1, fun fuel => ?_⟩
  cases fuel with
  | zero => rfl
  | succ f => simp [Vm.isSubclassAux, ne, h2, h3]
theorem NI.step {C S K : String} (w : (Jvm.Cond.superclass C S).before a0 Z = true) (n : NI Z S K) (hn : C ≠ K) : NI Z C K := by
  obtain ⟨c', t, g1, g2, g3⟩ := n
  obtain ⟨c, h0⟩ := found_sup w
  obtain ⟨p, k, kp, h1, h2, h3, h4, -⟩ := Cond.superclass_spec h0 w
  cases g1.symm.trans h1
  have ne := ids_ne h0 g2 hn
  refine ⟨c, t, h0, g2, fun fuel => ?_⟩
  cases fuel with
  | zero => rfl
  | succ f => simp [Vm.isSubclassAux, ne, h2, h4, g3]
theorem NI.no {C S K : String} {n : Nat} (w : (Jvm.Cond.superclass C S).before a0 Z = true) (wk : (Jvm.Cond.instantiable K n).before a0 Z = true) (nn : NI Z C K) (hn : C ≠ K) : ∃ c t, Z.vm.findClass C = some c ∧ Z.vm.findClass K = some t ∧ Z.vm.assignable c t = false := by
  obtain ⟨c, t, h0, g0, n3⟩ := nn
  obtain ⟨p, k, kp, h1, h2, h3, h4, h5, -, h7⟩ := Cond.superclass_spec h0 w
  obtain ⟨t', k', g1, g2, g5, g7, -⟩ := Cond.instantiable_spec wk
  cases g0.symm.trans g1
  have ne := ids_ne h0 g0 hn
  have g8 : k'.isInterface = false := by revert g7; cases k'.isInterface <;> simp
  refine ⟨c, t, h0, g0, ?_⟩
  show Z.vm.assignableAux (255 + 1) c t = false
  simp [Vm.assignableAux, ne, h2, g2, h5, g5, g8, Vm.isSubclass, n3]
/-! the table of boxed ints -/
def elOf (t : Jvm.Term) (Z : State) (a0 : Array Value) (j : Int32) : Addr := match (Jvm.Term.elem t (.int j)).eval a0 Z none [] Z with | some (.ref a) => a | _ => 0
theorem own_tab {t : Jvm.Term} {a : Addr} {ty : FieldType} {C : String} {rest : Jvm.Cond} {n j : Int32} (ht : t.eval a0 Z none [] Z = some (.ref a)) (ha : (Jvm.Cond.arrayOf t ty).value a0 Z none Z [] = some true) (hl : (Jvm.Cond.eq (Jvm.Term.length t) (.int n)).value a0 Z none Z [] = some true) (hall : (Jvm.Cond.all t (Jvm.Cond.and (Jvm.Cond.exactly (Jvm.Term.elem t (Jvm.Term.index 0)) C) rest)).value a0 Z none Z [] = some true) (hti : t.eval a0 Z none [j.toNatClampNeg] Z = t.eval a0 Z none [] Z) (hj : ¬ j < 0 ∧ j < n) (hn : ¬ n < 0) :
    ∃ cl, Arr Z Z.heap a cl ty ∧ ¬ (j < 0 ∨ cl.slots.size ≤ j.toNatClampNeg) ∧ cl.slots[j.toNatClampNeg]? = some (.ref (elOf t Z a0 j)) := by
  obtain ⟨cl, A⟩ := Arr.start ht ha
  obtain ⟨cl', h1, h2, h3⟩ := own_len (own_eqint hl) ht
  cases A.1.symm.trans h1
  have hsz : cl.slots.size = n.toNatClampNeg := by
    have := congrArg Int32.toInt h3; rw [len_toInt h2] at this
    simp only [Int32.toNatClampNeg]; omega
  have hin := inb_of hsz hj
  have hlt : j.toNatClampNeg < cl.slots.size := Nat.lt_of_not_le fun q => hin (Or.inr q)
  have harr : Z.arrayAt? a = some cl := by
    obtain ⟨b, cl2, q1, q2, -⟩ := Term.length_spec (own_eqint hl)
    cases ht.symm.trans q1
    cases (State.arrayAt?_spec q2).1.symm.trans h1
    exact q2
  have hv := hall
  simp only [Cond.value, ht, harr] at hv
  have hx := Jvm.Cond.all_elim ht harr hall _ hlt
  obtain ⟨hx1, -⟩ := and_e hx
  obtain ⟨x, hx2⟩ := exa_v hx1
  refine ⟨cl, A, hin, ?_⟩
  have hix : (Jvm.Term.index 0).eval a0 Z none [j.toNatClampNeg] Z = some (.int j) := idx_at hj.1
  have e1 := (elem_in hx2 (hti.trans ht) hix h1).2
  have e2 : (Jvm.Term.elem t (.int j)).eval a0 Z none [] Z = some (.ref x) := by rw [← e1]; exact elem_f ht (Term.int_eval j) harr hj.1
  simp only [elOf, e2]; exact e1
end Own3
section Own4
variable {p : Program} {l : Launch} {e : Env} {R : Room} {s : State} {m : MethodId} {args : Array Value} {below : List Frame} {meth : Method} {c : Code} {T T' : State} {locs : List Loc} {cells slots : Nat} {Z : State} {a0 : Array Value} {h : Heap} {P : State → Prop} {pc q : Nat} {Ls : Array Slot} {S : List Value} {g g' : JFrame}
variable {y : MethodName} {bytes : ByteArray} {maxL : Nat} {ret : Option FieldType} {Q : Option Value → Heap → List Loc → Prop}
/-! own4: chars, clones, narrow fields -/
theorem g_cald {a : Addr} {kA : ClassId} {n j : Int32} {vs : List Value} {dv v : Value} (X : Stand p l e R s m args below meth c T locs cells slots) (K : Kt p Z s m meth c y bytes maxL ret) (eT : T.heap = h) (A : Arv Z h a kA .char n vs dv) (hj : ¬ j < 0 ∧ j < n) (hv : vs.getD j.toNatClampNeg dv = v) (hd : decode bytes pc = .ok (.caload, 1)) (hq : pc + 1 = q) (k : Go p e below P T (mkF m q Ls (v :: S))) : Go p e below P T (mkF m pc Ls (.int j :: .ref a :: S)) := by
  subst hq
  obtain ⟨cl, Ar, hin, hat⟩ := arv_at A hj hv
  exact Go.by_ (fun t k => X.caload K.x (by rw [eT]; exact Ar.1) (State.isArrayOf_alike K.z.alike Ar.2.1) Ar.2.2 hin hat (g := mkF m pc Ls (.int j :: .ref a :: S)) rfl rfl (K.d hd) _ k) k
theorem g_cst {a : Addr} {kA : ClassId} {n j x z : Int32} {vs vs' : List Value} {dv : Value} (X : Stand p l e R s m args below meth c T locs cells slots) (K : Kt p Z s m meth c y bytes maxL ret) (eT : T.heap = h) (A : Arv Z h a kA .char n vs dv) (hj : ¬ j < 0 ∧ j < n) (hl : j.toNatClampNeg < vs.length) (hz : nar .char x = z) (hs : vs.set j.toNatClampNeg (.int z) = vs') (hd : decode bytes pc = .ok (.castore, 1)) (hq : pc + 1 = q)
    (k : ∀ T' h', Stand p l e R s m args below meth c T' (locs ++ [⟨a, j.toNatClampNeg⟩]) cells slots → T'.heap = h' → Wr h h' a j.toNatClampNeg (.int z) → Arv Z h' a kA .char n vs' dv → Go p e below P T' (mkF m q Ls S)) : Go p e below P T (mkF m pc Ls (.int x :: .int j :: .ref a :: S)) := by
  subst hq hz
  obtain ⟨cl, Ar, hin, -⟩ := arv_at A hj rfl
  obtain ⟨T1, h1, X1, e1, W1, st⟩ := stC X K.x K.z eT Ar hin (g := mkF m pc Ls (.int x :: .int j :: .ref a :: S)) rfl rfl (K.d hd)
  exact Go.by_ st (k T1 h1 X1 e1 W1 (arv_set A (fits_nar_char _) W1 hl hs))
theorem g_putfN {index kk : Nat} {C O n d Cl : String} {a : Addr} {v v' old : Value} {ty : FieldType} (X : Stand p l e R s m args below meth c T locs cells slots) (K : Kt p Z s m meth c y bytes maxL ret) (w : (Jvm.Cond.fieldLink y.cls index C n d).before a0 Z = true) (via : Via Z C O n d) (eT : T.heap = h) (F : Fld Z h a O n d old) (E : Exa Z h a Cl) (L : (Jvm.Cond.lays Cl O n d).before a0 Z = true ∨ ((Jvm.Cond.laysFinal Cl O n d).before a0 Z = true ∧ y.cls = O ∧ y.name = "<init>")) (wi : (Jvm.Cond.instantiable Cl kk).before a0 Z = true)
    (hty : parseFieldDescriptor d = some ty) (hn : narrow ty v = v') (hf : fits ty v' = true) (hd : decode bytes pc = .ok (.putfield index, 3)) (hq : pc + 3 = q)
    (k : ∀ T' h', Stand p l e R s m args below meth c T' (locs ++ [⟨a, Jvm.RoadKit.slotOf Z O n d⟩]) cells slots → T'.heap = h' → Wr h h' a (Jvm.RoadKit.slotOf Z O n d) v' → Fld Z h' a O n d v' → Go p e below P T' (mkF m q Ls S)) : Go p e below P T (mkF m pc Ls (v :: .ref a :: S)) := by
  subst hq
  obtain ⟨T1, h1, X1, e1, W1, st⟩ := putFN X K.x K.z K.own w via eT F E (L.imp id fun q => ⟨q.1, q.2.1, K.nm.trans q.2.2⟩) wi hty hn hf (g := mkF m pc Ls (v :: .ref a :: S)) rfl rfl (K.d hd)
  exact Go.by_ st (k T1 h1 X1 e1 W1 (F.same W1))
theorem fitc_of {a : Addr} {cl : Cell} {ty : FieldType} {vs : List Value} {dv : Value} (A : Arr Z h a cl ty) (H : Has cl vs dv) (G : ∀ i, i < cl.slots.size → fits ty (vs.getD i dv) = true) : FitC Z cl := fun i v hv => by
  obtain ⟨hi, rfl⟩ := Array.getElem?_eq_some_iff.mp hv
  obtain ⟨hs, k, hk, comp, hkind⟩ := A.2.1
  have e : Z.slotType? cl.cls .none i = some ty := by simp [State.slotType?, hk, hkind]
  have q := H i hi
  rw [Array.getElem?_eq_getElem hi] at q
  have q' := Option.some.inj q
  simp only [State.fitsSlot, e]
  rw [q']; exact G i hi
theorem g_clone {index W cap : Nat} {a : Addr} {kA : ClassId} {ad : String} {ty : FieldType} {n : Int32} {vs : List Value} {dv : Value} (X : Stand p l e R s m args below meth c T locs cells slots) (K : Kt p Z s m meth c y bytes maxL ret)
    (w1 : (Jvm.Cond.methodLink y.cls index ⟨ad, "clone", "()Ljava/lang/Object;"⟩).before a0 Z = true) (w2 : (Jvm.Cond.sameMethod ad "java/lang/Object" "clone" "()Ljava/lang/Object;").before a0 Z = true) (w3 : (Jvm.Cond.native ⟨"java/lang/Object", "clone", "()Ljava/lang/Object;"⟩).before a0 Z = true) (w4 : (Jvm.Cond.instanceMethod ⟨"java/lang/Object", "clone", "()Ljava/lang/Object;"⟩).before a0 Z = true) (w5 : (Jvm.Cond.selects ad ⟨ad, "clone", "()Ljava/lang/Object;"⟩ ⟨"java/lang/Object", "clone", "()Ljava/lang/Object;"⟩).before a0 Z = true) (w6 : (Jvm.Cond.castable ad "java/lang/Cloneable").before a0 Z = true)
    (eT : T.heap = h) (A : Arv Z h a kA ty n vs dv) (E : Exa Z h a ad) (hsz : Ls.size = maxL) (hd : decode bytes pc = .ok (.invokevirtual index, 3)) (hf : 1 ≤ R.frames) (hW : (S.map fun v => v.category).sum ≤ W) (hl : W + 14 ≤ R.locals) (hcap : n.toNatClampNeg ≤ cap) (hc : cells + 1 ≤ R.cells) (hsl : slots + cap ≤ R.slots) (hq : pc + 3 = q)
    (k : ∀ (T' : State) (h' : Heap) (b : Addr), Stand p l e R s m args below meth c T' locs (cells + 1) (slots + cap) → T'.heap = h' → Ext h h' → h.size = b → Arv Z h' b kA ty n vs dv → Exa Z h' b ad → Go p e below P T' (mkF m q Ls (.ref b :: S))) : Go p e below P T (mkF m pc Ls (.ref a :: S)) := by
  subst hq
  obtain ⟨cl, Ar, q1, Sz, Nn, H, G⟩ := A
  obtain ⟨T1, h1, X1, e1, E1, A1, B1, st⟩ := cloneA X K.x K.z K.own w1 w2 w3 w4 w5 w6 eT Ar E (fitc_of Ar H G) (g := mkF m pc Ls (.ref a :: S)) rfl (by rw [K.ml]; exact hsz) rfl (K.d hd) hf (W := W) (cap := cap) (by show 2 * 0 + _ ≤ _; omega) hl (by rw [Sz]; exact hcap) hc hsl
  exact Go.by_ st (k T1 h1 _ X1 e1 E1 rfl ⟨cloneOf cl, A1, q1, Sz, Nn, H, G⟩ B1)
def adT (t : Jvm.Term) (Z : State) (a0 : Array Value) : Addr := match t.eval a0 Z none [] Z with | some (.ref a) => a | _ => 0
theorem own_adT {t : Jvm.Term} (h : ∃ x, t.eval a0 Z none [] Z = some (.ref x)) : t.eval a0 Z none [] Z = some (.ref (adT t Z a0)) := by
  obtain ⟨x, hx⟩ := h; simp only [adT, hx]
theorem g_instNull {index : Nat} (X : Stand p l e R s m args below meth c T locs cells slots) (K : Kt p Z s m meth c y bytes maxL ret) (hd : decode bytes pc = .ok (.instanceof index, 3)) (hq : pc + 3 = q) (k : Go p e below P T (mkF m q Ls (.int 0 :: S))) : Go p e below P T (mkF m pc Ls (.null :: S)) := by
  subst hq
  exact Go.by_ (fun t k => X.instanceofNull K.x (g := mkF m pc Ls (.null :: S)) rfl rfl (K.d hd) _ k) k
end Own4
section Own5
variable {p : Program} {l : Launch} {e : Env} {R : Room} {s : State} {m : MethodId} {args : Array Value} {below : List Frame} {meth : Method} {c : Code} {T T' : State} {locs : List Loc} {cells slots : Nat} {Z : State} {a0 : Array Value} {h : Heap} {P : State → Prop} {pc q : Nat} {Ls : Array Slot} {S : List Value} {g g' : JFrame}
variable {y : MethodName} {bytes : ByteArray} {maxL : Nat} {ret : Option FieldType} {Q : Option Value → Heap → List Loc → Prop} {kc ks : Nat} {vm0 : Vm} {k0 : Nat}
/-! own5: bodies that load a text -/
def DoneW (s : State) (below : List Frame) (Q : Option Value → Heap → List Loc → Prop) (kc ks : Nat) (n : State) : Prop :=
  ∃ o, n.status = .running ∧ Ended n below o ∧ ∃ v L, o = .returned v ∧ Q v n.heap L ∧ ReturnedEndW s o n L kc ks
theorem goW (H : Go p e below (Done s below Q kc ks) T g) : Go p e below (DoneW s below Q kc ks) T g := by
  obtain ⟨n, a, o, b1, b2, v, L, b3, b4, b5⟩ := H
  exact ⟨n, a, o, b1, b2, v, L, b3, b4, ReturnedEndW.of_narrow b5.1 b5.2.1 b5.2.2⟩
theorem rw_mono {n : State} {o : Outcome} {L : List Loc} {k1 k2 k3 k4 : Nat} (H : ReturnedEndW s o n L k1 k2) (hc : k1 ≤ k3) (hs : k2 ≤ k4) : ReturnedEndW s o n L k3 k4 := ⟨H.1, H.2.1, H.2.2.1, H.2.2.2.mono hc hs⟩
def MtS (l : Launch) (Z : State) (y : MethodName) (bytes : ByteArray) (maxL : Nat) (ret : Option FieldType) (ws : List Jvm.Cond) (rm : Room) (as' : Array Value) (h0 : Heap) (Q : Option Value → Heap → List Loc → Prop) : Prop :=
  MetFree l y (head1 (Jvm.Cond.code y bytes maxL ret :: ws) rm) (fun a U => a = as' ∧ Z.Warmed39 U.vm ∧ U.heap = h0 ∧ IB Z U.vm []) (fun _ _ _ _ _ => True) (fun _ U o U' => ∃ v L, o = .returned v ∧ Q v U'.heap L ∧ ReturnedEndW U o U' L rm.cells rm.slots)
theorem g_bodyS {ws : List Jvm.Cond} {rm : Room} {as' : Array Value} {h0 : Heap} (hpl : plainFor y = true)
    (H : ∀ (p : Program) (e : Env) (s : State) (m : MethodId) (below : List Frame) (meth : Method) (c : Code) (T : State), Kt p Z s m meth c y bytes maxL ret → Stand p l e rm s m as' below meth c T [] 0 0 → T.heap = h0 → s.heap = h0 → IB Z s.vm [] → Go p e below (DoneW s below Q rm.cells rm.slots) T (entryFrame m as' maxL)) :
    MtS l Z y bytes maxL ret ws rm as' h0 Q := by
  refine MetFree.of_bodySF hpl hisR ?_
  intro p e s m args below meth c s₁ Bd hml0 hP hK
  obtain ⟨rfl, hZ, hh, hI⟩ := hP
  obtain ⟨n, a, o, b1, b2, b3⟩ := H p e s m below meth c s₁ ⟨Bd.exec, hZ, Bd.bytes, hml0, findClass_of_methodNamed Bd.named, Bd.returns, BodyLoose.notSynchronized Bd, (name_of_methodNamed Bd.named Bd.method).1, Bd.named⟩ (Stand.of_body Bd) (by rw [← hh, Bd.state]; rfl) hh hI
  exact ⟨n, o, a, b1, b2, b3⟩
theorem Kt.up (K : Kt p Z s m meth c y bytes maxL ret) {vm' : Vm} {k1 : Nat} (hS : s.Since vm' k1) : Kt p Z (s.setVm vm') m meth c y bytes maxL ret :=
  ⟨K.1, State.Warmed39.trans K.z hS.1, K.2.2.1, K.2.2.2.1, by show vm'.findClass _ = _; rw [hS.1.alike.findClass]; exact K.own, K.rt, K.lk, K.nm, by rw [State.methodNamed?_setVm hS.1.alike]; exact K.named⟩
/-! returns behind a load -/
theorem g_retS (X : Stand p l e R (s.setVm vm0) m args below meth c T locs cells slots) (K : Kt p Z (s.setVm vm0) m meth c y bytes maxL none) (hS : s.Since vm0 k0) (hk : k0 ≤ T.heap.size) (hd : decode bytes pc = .ok (.return_, 1)) (hc : cells ≤ kc) (hs : slots ≤ ks) (hQ : Q none T.heap locs) : Go p e below (DoneW s below Q kc ks) T (mkF m pc Ls []) := by
  obtain ⟨fs, hr, hrun, hended, hR⟩ := X.leaveW hS hk (v := none) (fun _ => rfl) K.lk
  exact ⟨_, X.returnOut K.x K.rt (K.d hd) hr, _, hrun, hended, _, _, rfl, hQ, rw_mono hR hc hs⟩
theorem g_nretS {t : FieldType} (X : Stand p l e R (s.setVm vm0) m args below meth c T locs cells slots) (K : Kt p Z (s.setVm vm0) m meth c y bytes maxL (some t)) (hS : s.Since vm0 k0) (hk : k0 ≤ T.heap.size) (ht : t = .boolean ∨ t = .byte ∨ t = .char ∨ t = .short) {z z' : Int32} (hn : nar t z = z') (hd : decode bytes pc = .ok (.ireturn, 1)) (hc : cells ≤ kc) (hs : slots ≤ ks) (hQ : Q (some (.int z')) T.heap locs) : Go p e below (DoneW s below Q kc ks) T (mkF m pc Ls (.int z :: S)) := by
  subst hn
  obtain ⟨fs, hr, hrun, hended, hR⟩ := X.leaveW hS hk (v := some (.int (nar t z))) (fun h => by rw [K.rt] at h; cases h) K.lk
  exact ⟨_, retN X K.x K.rt ht (K.d hd) hr, _, hrun, hended, _, _, rfl, hQ, rw_mono hR hc hs⟩
theorem g_aretS {t : FieldType} {w : Value} (X : Stand p l e R (s.setVm vm0) m args below meth c T locs cells slots) (K : Kt p Z (s.setVm vm0) m meth c y bytes maxL (some t)) (hS : s.Since vm0 k0) (hk : k0 ≤ T.heap.size) (ht : t.isReference = true) (hw : w.isRef = true) (hn : narrow t w = w) (hd : decode bytes pc = .ok (.areturn, 1)) (hc : cells ≤ kc) (hs : slots ≤ ks) (hQ : Q (some w) T.heap locs) : Go p e below (DoneW s below Q kc ks) T (mkF m pc Ls (w :: S)) := by
  obtain ⟨fs, hr, hrun, hended, hR⟩ := X.leaveW hS hk (v := some w) (fun h => by rw [K.rt] at h; cases h) K.lk
  exact ⟨_, retOut X K.x K.rt hn (Or.inr (Or.inr (Or.inr (Or.inr ⟨rfl, ht, hw⟩)))) (K.d hd) hr, _, hrun, hended, _, _, rfl, hQ, rw_mono hR hc hs⟩
theorem since_refl (s : State) (k : Nat) : s.Since s.vm k := ⟨State.Warmed39.refl s, by
  intro j p hj hp
  exact absurd (Array.getElem?_eq_some_iff.mp hp).1 (Nat.not_lt.mpr hj)⟩
/-! a load of a text, the first -/
theorem g_ldcT {index n : Nat} {text : String} {vs : List Value} {z : Int32} (X : Stand p l e R s m args below meth c T locs cells slots) (K : Kt p Z s m meth c y bytes maxL ret) (w : (Jvm.Cond.stringLink y.cls index text).before a0 Z = true) (wS : ∀ a ∈ Bundle.stringAtoms, a.before a0 Z = true) (eT : T.heap = h) (N : Fr s.heap.size locs) (hkeep : ∀ (b : Addr) (cl : Cell), Z.heap[b]? = some cl → s.heap[b]? = some cl) (I : IB Z s.vm []) (hh : Jvm.Lit.constHeld Z y.cls index) (hcw : Jvm.Lit.compactW.before a0 Z = true)
    (ht : (∀ c ∈ text.toList, c.toNat < 256) ∧ text.toList.map (fun c => Value.int (Jvm.Lit.byteI c.toNat.toUInt16)) = vs) (hz : ¬ z < 0) (hl : z.toNatClampNeg = vs.length) (hd : decode bytes pc = .ok (.ldc index, 2)) (hn : 4 * text.toList.length ≤ n) (hbig : n ≤ 536870912) (hc : cells + 2 ≤ R.cells) (hl' : slots + (n + 4) ≤ R.slots) (hq : pc + 2 = q)
    (k : ∀ (T' : State) (h' : Heap) (vm' : Vm) (k1 : Nat) (a b : Addr) (kB : ClassId), Stand p l e R (s.setVm vm') m args below meth c T' locs (cells + 2) (slots + (n + 4)) → Kt p Z (s.setVm vm') m meth c y bytes maxL ret → T'.heap = h' → Ext h h' → s.Since vm' k1 → k1 ≤ h'.size → Exa Z h' a "java/lang/String" → Fld Z h' a "java/lang/String" "coder" "B" (.int 0) → Fld Z h' a "java/lang/String" "value" "[B" (.ref b) → Arv Z h' b kB .byte z vs (.int 0) → Lit (s.setVm vm') y.cls index a → Go p e below P T' (mkF m q Ls (.ref a :: S))) : Go p e below P T (mkF m pc Ls S) := by
  subst hq
  obtain ⟨a, T1, h1, k1, b, kB, x1, x2, x3, x4, x5, x6, x7, x8, x9, x10, x11, x12, x13, x14, x15, st⟩ := ldcSVL (vm0 := s.vm) (s := s) X K.x K.z K.own w wS eT (since_refl s 0) (Nat.zero_le _) N hkeep I (by simp) hh hcw ht hz hl (g := mkF m pc Ls S) rfl (K.d hd) hn hbig hc hl'
  exact Go.by_ st (k T1 h1 T1.vm k1 a b kB x1 (K.up x4) x2 x3 x4 x5 x8 x9 x10 x11 x15)
/-! .. and again -/
theorem g_ldcU {index : Nat} {text : String} {a : Addr} (X : Stand p l e R (s.setVm vm0) m args below meth c T locs cells slots) (K : Kt p Z (s.setVm vm0) m meth c y bytes maxL ret) (w : (Jvm.Cond.stringLink y.cls index text).before a0 Z = true) (L : Lit (s.setVm vm0) y.cls index a) (hd : decode bytes pc = .ok (.ldc index, 2)) (hq : pc + 2 = q) (k : Go p e below P T (mkF m q Ls (.ref a :: S))) : Go p e below P T (mkF m pc Ls S) := by
  subst hq
  exact Go.by_ (ldcAgain X K.x K.z K.own w L (g := mkF m pc Ls S) rfl (K.d hd)) k
/-! calls of such bodies -/
variable {y' : MethodName} {bytes' : ByteArray} {maxL' : Nat} {ret' : Option FieldType} {rm : Room} {as' : Array Value} {Q' : Option Value → Heap → List Loc → Prop} {index : Nat} {argsL rest : List Value} {W : Nat}
theorem backOfT {len : Nat} (hM : MtS l Z y bytes maxL ret [] rm as' h Q) (hZ : Z.Warmed39 s.vm) (I : IB Z s.vm []) (wc : (Jvm.Cond.code y bytes maxL ret).before a0 Z = true) (wz : (Jvm.Cond.initialized y.cls).before a0 Z = true) (hf : rm.frames + 1 ≤ R.frames) (hl : W + (maxL + 11) + rm.locals ≤ R.locals) :
    BackS l R p e below s args y len W (fun A a => a = as' ∧ A.U.heap = h ∧ A.cells + rm.cells ≤ R.cells ∧ A.slots + rm.slots ≤ R.slots)
      (fun A _ v B => ∃ L, Q v B.U.heap L ∧ B.locs = A.locs ++ L ∧ B.cells = A.cells + rm.cells ∧ B.slots = A.slots + rm.slots) :=
  BackS.of_freeW (bytes := bytes) (maxL := maxL) (ret := ret) (E := fun _ _ o t L k n => k = rm.cells ∧ n = rm.slots ∧ ∃ v, o = .returned v ∧ Q v t.heap L) hM hf hl
    (fun m meth c A a Y hp => have hU : Z.Warmed39 A.U.vm := wtrans hZ Y.warmed
      ⟨by show (Jvm.Cond.and _ .tt).before a A.U = true; rw [Cond.before_and, mv hU wc]; rfl, mv hU wc, mv hU wz, hp.2.2.1, hp.2.2.2⟩)
    (fun m meth c A a g mk Y hp => ⟨hp.1, wtrans hZ Y.warmed, hp.2.1, by obtain ⟨more, e1, e2⟩ := I; exact ⟨more, Y.warmed.interned_eq.trans e1, e2⟩⟩) (fun _ _ _ _ _ _ _ _ _ => trivial)
    (fun _ _ _ _ ⟨v, L, h1, h2, h3⟩ => ⟨L, _, _, h3, rfl, rfl, v, h1, h2⟩)
    (fun m meth c A a g mk v t L k n Y hp _ _ ⟨e1, e2, v', e3, e4⟩ => by cases e3; subst e1 e2; exact ⟨L, e4, rfl, rfl, rfl⟩)
theorem g_staticS (X : Stand p l e R s m args below meth c T locs cells slots) (K : Kt p Z s m meth c y bytes maxL ret) (I : IB Z s.vm []) (w1 : (Jvm.Cond.methodLink y.cls index y').before a0 Z = true) (w2 : (Jvm.Cond.static y').before a0 Z = true) (w3 : (Jvm.Cond.initialized y'.cls).before a0 Z = true) (w4 : (Jvm.Cond.code y' bytes' maxL' ret').before a0 Z = true) (hy : y'.cls ≠ "java/lang/invoke/MethodHandle" ∧ y'.cls ≠ "java/lang/invoke/VarHandle")
    (hM : MtS l Z y' bytes' maxL' ret' [] rm as' h Q') (eT : T.heap = h) (hsz : Ls.size = maxL) (hlen : ∀ sig, parseMethodDescriptor y'.desc = some sig → argsL.length = sig.parameters.length) (hst : S = argsL.reverse ++ rest) (has : argsL.toArray = as') (hW : (rest.map fun v => v.category).sum ≤ W) (hd : decode bytes pc = .ok (.invokestatic index, 3))
    (hf : rm.frames + 1 ≤ R.frames) (hl : W + (maxL' + 11) + rm.locals ≤ R.locals) (hc : cells + rm.cells ≤ R.cells) (hs : slots + rm.slots ≤ R.slots) (hq : pc + 3 = q)
    (k : ∀ T' vm' v L, Stand p l e R (s.setVm vm') m args below meth c T' (locs ++ L) (cells + rm.cells) (slots + rm.slots) → Kt p Z (s.setVm vm') m meth c y bytes maxL ret → s.Since vm' T'.heap.size → Q' v T'.heap L → Go p e below P T' (mkF m q Ls (v.toList ++ rest))) : Go p e below P T (mkF m pc Ls S) := by
  subst hq has hst
  obtain ⟨v, _, ⟨T1, L1, k1, n1⟩, -, X1, hS, -, ⟨Lc, hQ, l1, y1, z1⟩, st⟩ := callSS X K.x (y := y') K.own (mvT K.z w1) (mvT K.z w2) (mvT K.z w3) (mvT K.z w4) hy (backOfT (W := W) hM K.z I w4 w3 hf hl) (g := mkF m pc Ls (argsL.reverse ++ rest)) rfl (by rw [K.ml]; exact hsz) (argsL := argsL) (rest := rest) hlen rfl (by show 2 * 0 + _ ≤ _; omega) (K.d hd) (fun _ _ => ⟨rfl, eT, hc, hs⟩)
  dsimp only [Pt.U, Pt.locs, Pt.cells, Pt.slots] at X1 l1 y1 z1 st hQ hS
  subst l1 y1 z1
  exact Go.tr st (k T1 T1.vm v Lc X1 (K.up hS) hS hQ)
theorem g_specialS {a : Addr} (X : Stand p l e R s m args below meth c T locs cells slots) (K : Kt p Z s m meth c y bytes maxL ret) (I : IB Z s.vm []) (hy1 : y'.name = "<init>") (w1 : (Jvm.Cond.methodLink y.cls index y').before a0 Z = true) (w2 : (Jvm.Cond.instanceMethod y').before a0 Z = true) (w3 : (Jvm.Cond.initialized y'.cls).before a0 Z = true) (w4 : (Jvm.Cond.code y' bytes' maxL' none).before a0 Z = true) (hy : y'.cls ≠ "java/lang/invoke/MethodHandle" ∧ y'.cls ≠ "java/lang/invoke/VarHandle")
    (hM : MtS l Z y' bytes' maxL' none [] rm as' h Q') (eT : T.heap = h) (hsz : Ls.size = maxL) (hlen : ∀ sig, parseMethodDescriptor y'.desc = some sig → argsL.length = sig.parameters.length) (hst : S = argsL.reverse ++ .ref a :: rest) (has : (Value.ref a :: argsL).toArray = as') (hW : (rest.map fun v => v.category).sum ≤ W) (hd : decode bytes pc = .ok (.invokespecial index, 3))
    (hf : rm.frames + 1 ≤ R.frames) (hl : W + (maxL' + 11) + rm.locals ≤ R.locals) (hc : cells + rm.cells ≤ R.cells) (hs : slots + rm.slots ≤ R.slots) (hq : pc + 3 = q)
    (k : ∀ T' vm' v L, Stand p l e R (s.setVm vm') m args below meth c T' (locs ++ L) (cells + rm.cells) (slots + rm.slots) → Kt p Z (s.setVm vm') m meth c y bytes maxL ret → s.Since vm' T'.heap.size → Q' v T'.heap L → Go p e below P T' (mkF m q Ls (v.toList ++ rest))) : Go p e below P T (mkF m pc Ls S) := by
  subst hq has hst
  obtain ⟨v, _, ⟨T1, L1, k1, n1⟩, -, X1, hS, -, ⟨Lc, hQ, l1, y1, z1⟩, st⟩ := X.specialBackS K.x (y := y') hy1 K.own (mvT K.z w1) (mvT K.z w2) (mvT K.z w4) hy (backOfT (W := W) hM K.z I w4 w3 hf hl) (g := mkF m pc Ls (argsL.reverse ++ .ref a :: rest)) rfl (by rw [K.ml]; exact hsz) (Steps.refl _) (a := a) (argsL := argsL) (rest := rest) hlen rfl (by show 2 * 0 + _ ≤ _; omega) (K.d hd) (fun _ _ => ⟨rfl, eT, hc, hs⟩)
  dsimp only [Pt.U, Pt.locs, Pt.cells, Pt.slots] at X1 l1 y1 z1 st hQ hS
  subst l1 y1 z1
  exact Go.tr st (k T1 T1.vm v Lc X1 (K.up hS) hS hQ)
end Own5
def chF (p : Int32) : Int32 := if p &&& 256 = 0 then p &&& 255 else if p &&& 3 = 0 then 61 else if p &&& 3 = 1 then 33 else if p &&& 3 = 2 then 60 else 62
theorem and255 (p : Int32) : 0 ≤ (p &&& 255).toInt ∧ (p &&& 255).toInt ≤ 255 := by
  have h : (p &&& 255).toInt = p.toInt % 2 ^ 8 := Jvm.Kit.i32_mask p 255 (k := 8) (by decide) (by decide)
  rw [h]; omega
theorem chF_bd (p : Int32) : 0 ≤ (chF p).toInt ∧ (chF p).toInt ≤ 255 := by
  unfold chF; split
  · exact and255 p
  · split
    · decide
    · split
      · decide
      · split <;> decide
theorem chF_nar (p : Int32) : nar .char (chF p) = chF p := by
  unfold chF; split
  · exact i2c_mask p
  · split
    · decide
    · split
      · decide
      · split <;> decide
theorem nar_byte (x : Int32) : nar .byte x.toInt8.toInt32 = x.toInt8.toInt32 := by simp [nar]
theorem b8 {x : Int32} (h : 0 ≤ x.toInt ∧ x.toInt ≤ 255) {k : Int32} {n : Int} (hk : k.toInt = n) (hn : 0 ≤ n ∧ n < 128) : k = x.toInt8.toInt32 ↔ x = k := by
  have e : x.toInt8.toInt32.toInt = x.toInt.bmod (2 ^ 8) := by rw [Int8.toInt_toInt32, Int32.toInt_toInt8]
  constructor
  · intro q
    have := congrArg Int32.toInt q
    rw [e, hk] at this
    have : x.toInt = n := by rw [Int.bmod_def] at this; omega
    exact own_lit this hk
  · rintro rfl
    apply Int32.toInt_inj.mp
    rw [e, hk, Int.bmod_def]; omega
theorem own_mk8 (x : Int32) : (x &&& (7 : Int32)) = (0 : Int32) ∨ (x &&& (7 : Int32)) = (1 : Int32) ∨ (x &&& (7 : Int32)) = (2 : Int32) ∨ (x &&& (7 : Int32)) = (3 : Int32) ∨ (x &&& (7 : Int32)) = (4 : Int32) ∨ (x &&& (7 : Int32)) = (5 : Int32) ∨ (x &&& (7 : Int32)) = (6 : Int32) ∨ (x &&& (7 : Int32)) = (7 : Int32) := by
  have h : (x &&& (7 : Int32)).toInt = x.toInt % 2 ^ 3 := Jvm.Kit.i32_mask x 7 (k := 3) (by decide) (by decide)
  generalize (x &&& (7 : Int32)) = z at h ⊢
  have q : z.toInt = 0 ∨ z.toInt = 1 ∨ z.toInt = 2 ∨ z.toInt = 3 ∨ z.toInt = 4 ∨ z.toInt = 5 ∨ z.toInt = 6 ∨ z.toInt = 7 := by omega
  rcases q with q | q | q | q | q | q | q | q
  · exact Or.inl (own_lit q (by decide))
  · exact Or.inr (Or.inl (own_lit q (by decide)))
  · exact Or.inr (Or.inr (Or.inl (own_lit q (by decide))))
  · exact Or.inr (Or.inr (Or.inr (Or.inl (own_lit q (by decide)))))
  · exact Or.inr (Or.inr (Or.inr (Or.inr (Or.inl (own_lit q (by decide))))))
  · exact Or.inr (Or.inr (Or.inr (Or.inr (Or.inr (Or.inl (own_lit q (by decide)))))))
  · exact Or.inr (Or.inr (Or.inr (Or.inr (Or.inr (Or.inr (Or.inl (own_lit q (by decide))))))))
  · exact Or.inr (Or.inr (Or.inr (Or.inr (Or.inr (Or.inr (Or.inr ((own_lit q (by decide)))))))))
def Hyp (Z : State) (a0 : Array Value) : Prop := (∀ d ∈ tables_1, d.before a0 Z = true) ∧ narrow_1.value a0 Z none Z [] = some true ∧ Fit Z ∧ (∀ d ∈ jdkStatics_1, d.before a0 Z = true) ∧ Jvm.Lit.constHeld Z "java/lang/String" 7
section Facts
variable {Z : State} {a0 : Array Value}
theorem w0 (H : Hyp Z a0) : (Jvm.Cond.methodLink "com/example/annotable/annotable/ComparisonOfPinLaw" (7 : Nat) ({ cls := "com/example/annotable/annotable/ComparisonOfPinLaw", name := "ch", desc := "(I)C" } : Jvm.MethodName)).before a0 Z = true := H.1 _ (List.mem_of_getElem? (i := 0) rfl)
theorem w1 (H : Hyp Z a0) : (Jvm.Cond.static ({ cls := "com/example/annotable/annotable/ComparisonOfPinLaw", name := "ch", desc := "(I)C" } : Jvm.MethodName)).before a0 Z = true := H.1 _ (List.mem_of_getElem? (i := 1) rfl)
theorem w2 (H : Hyp Z a0) : (Jvm.Cond.initialized "com/example/annotable/annotable/ComparisonOfPinLaw").before a0 Z = true := H.1 _ (List.mem_of_getElem? (i := 2) rfl)
theorem w3 (H : Hyp Z a0) : (Jvm.Cond.code ({ cls := "com/example/annotable/annotable/ComparisonOfPinLaw", name := "ch", desc := "(I)C" } : Jvm.MethodName) method_3_code (2 : Nat) (Option.some Jvm.ClassFile.FieldType.char)).before a0 Z = true := H.1 _ (List.mem_of_getElem? (i := 3) rfl)
theorem w4 (H : Hyp Z a0) : (Jvm.Cond.methodLink "com/example/annotable/annotable/ComparisonOfPinLaw" (13 : Nat) ({ cls := "com/example/annotable/annotable/ComparisonOfPinLaw", name := "make", desc := "(ICCC)Ljava/lang/String;" } : Jvm.MethodName)).before a0 Z = true := H.1 _ (List.mem_of_getElem? (i := 4) rfl)
theorem w5 (H : Hyp Z a0) : (Jvm.Cond.static ({ cls := "com/example/annotable/annotable/ComparisonOfPinLaw", name := "make", desc := "(ICCC)Ljava/lang/String;" } : Jvm.MethodName)).before a0 Z = true := H.1 _ (List.mem_of_getElem? (i := 5) rfl)
theorem w6 (H : Hyp Z a0) : (Jvm.Cond.code ({ cls := "com/example/annotable/annotable/ComparisonOfPinLaw", name := "make", desc := "(ICCC)Ljava/lang/String;" } : Jvm.MethodName) method_4_code (4 : Nat) (Option.some (Jvm.ClassFile.FieldType.object "java/lang/String"))).before a0 Z = true := H.1 _ (List.mem_of_getElem? (i := 6) rfl)
theorem w7 (H : Hyp Z a0) : (Jvm.Cond.classLink "com/example/annotable/annotable/ComparisonOfPinLaw" (27 : Nat) "java/lang/String").before a0 Z = true := H.1 _ (List.mem_of_getElem? (i := 7) rfl)
theorem w8 (H : Hyp Z a0) : (Jvm.Cond.instantiable "java/lang/String" (4 : Nat)).before a0 Z = true := H.1 _ (List.mem_of_getElem? (i := 8) rfl)
theorem w9 (H : Hyp Z a0) : (Jvm.Cond.initialized "java/lang/String").before a0 Z = true := H.1 _ (List.mem_of_getElem? (i := 9) rfl)
theorem w10 (H : Hyp Z a0) : (Jvm.Cond.arrayClass Jvm.ClassFile.FieldType.char).before a0 Z = true := H.1 _ (List.mem_of_getElem? (i := 10) rfl)
theorem w11 (H : Hyp Z a0) : (Jvm.Cond.methodLink "com/example/annotable/annotable/ComparisonOfPinLaw" (29 : Nat) ({ cls := "java/lang/String", name := "<init>", desc := "([C)V" } : Jvm.MethodName)).before a0 Z = true := H.1 _ (List.mem_of_getElem? (i := 11) rfl)
theorem w12 (H : Hyp Z a0) : (Jvm.Cond.instanceMethod ({ cls := "java/lang/String", name := "<init>", desc := "([C)V" } : Jvm.MethodName)).before a0 Z = true := H.1 _ (List.mem_of_getElem? (i := 12) rfl)
theorem w13 (H : Hyp Z a0) : (Jvm.Cond.code ({ cls := "java/lang/String", name := "<init>", desc := "([C)V" } : Jvm.MethodName) jdk_42_method_3_code (2 : Nat) (Option.none : Option Jvm.ClassFile.FieldType)).before a0 Z = true := H.1 _ (List.mem_of_getElem? (i := 13) rfl)
theorem w14 (H : Hyp Z a0) : (Jvm.Cond.methodLink "java/lang/String" (27 : Nat) ({ cls := "java/lang/String", name := "<init>", desc := "([CIILjava/lang/Void;)V" } : Jvm.MethodName)).before a0 Z = true := H.1 _ (List.mem_of_getElem? (i := 14) rfl)
theorem w15 (H : Hyp Z a0) : (Jvm.Cond.instanceMethod ({ cls := "java/lang/String", name := "<init>", desc := "([CIILjava/lang/Void;)V" } : Jvm.MethodName)).before a0 Z = true := H.1 _ (List.mem_of_getElem? (i := 15) rfl)
theorem w17 (H : Hyp Z a0) : (Jvm.Cond.code ({ cls := "java/lang/String", name := "<init>", desc := "([CIILjava/lang/Void;)V" } : Jvm.MethodName) jdk_42_method_149_code (6 : Nat) (Option.none : Option Jvm.ClassFile.FieldType)).before a0 Z = true := H.1 _ (List.mem_of_getElem? (i := 17) rfl)
theorem w18 (H : Hyp Z a0) : (Jvm.Cond.methodLink "java/lang/String" (1 : Nat) ({ cls := "java/lang/Object", name := "<init>", desc := "()V" } : Jvm.MethodName)).before a0 Z = true := H.1 _ (List.mem_of_getElem? (i := 18) rfl)
theorem w19 (H : Hyp Z a0) : (Jvm.Cond.instanceMethod ({ cls := "java/lang/Object", name := "<init>", desc := "()V" } : Jvm.MethodName)).before a0 Z = true := H.1 _ (List.mem_of_getElem? (i := 19) rfl)
theorem w20 (H : Hyp Z a0) : (Jvm.Cond.code ({ cls := "java/lang/Object", name := "<init>", desc := "()V" } : Jvm.MethodName) object_method_1_code (1 : Nat) (Option.none : Option Jvm.ClassFile.FieldType)).before a0 Z = true := H.1 _ (List.mem_of_getElem? (i := 20) rfl)
theorem w21 (H : Hyp Z a0) : (Jvm.Cond.stringLink "java/lang/String" (7 : Nat) "").before a0 Z = true := H.1 _ (List.mem_of_getElem? (i := 21) rfl)
theorem w22 (H : Hyp Z a0) : (Jvm.Cond.arrayClass Jvm.ClassFile.FieldType.byte).before a0 Z = true := H.1 _ (List.mem_of_getElem? (i := 22) rfl)
theorem w23 (H : Hyp Z a0) : (Jvm.Cond.laysFinal "java/lang/String" "java/lang/String" "value" "[B").before a0 Z = true := H.1 _ (List.mem_of_getElem? (i := 23) rfl)
theorem w24 (H : Hyp Z a0) : (Jvm.Cond.laysFinal "java/lang/String" "java/lang/String" "coder" "B").before a0 Z = true := H.1 _ (List.mem_of_getElem? (i := 24) rfl)
theorem w25 (H : Hyp Z a0) : (Jvm.Cond.soleField "java/lang/String" "value").before a0 Z = true := H.1 _ (List.mem_of_getElem? (i := 25) rfl)
theorem w26 (H : Hyp Z a0) : (Jvm.Cond.soleField "java/lang/String" "coder").before a0 Z = true := H.1 _ (List.mem_of_getElem? (i := 26) rfl)
theorem w27 (H : Hyp Z a0) : (Jvm.Cond.fieldLink "java/lang/String" (9 : Nat) "java/lang/String" "value" "[B").before a0 Z = true := H.1 _ (List.mem_of_getElem? (i := 27) rfl)
theorem w28 (H : Hyp Z a0) : (Jvm.Cond.fieldLink "java/lang/String" (15 : Nat) "java/lang/String" "coder" "B").before a0 Z = true := H.1 _ (List.mem_of_getElem? (i := 28) rfl)
theorem w29 (H : Hyp Z a0) : (Jvm.Cond.methodLink "com/example/annotable/annotable/ComparisonOfPinLaw" (17 : Nat) ({ cls := "com/example/annotable/annotable/ComparisonOfPinLaw", name := "expected", desc := "(ICC)Lcom/example/annotable/annotable/PathQuery$Comparison;" } : Jvm.MethodName)).before a0 Z = true := H.1 _ (List.mem_of_getElem? (i := 29) rfl)
theorem w30 (H : Hyp Z a0) : (Jvm.Cond.static ({ cls := "com/example/annotable/annotable/ComparisonOfPinLaw", name := "expected", desc := "(ICC)Lcom/example/annotable/annotable/PathQuery$Comparison;" } : Jvm.MethodName)).before a0 Z = true := H.1 _ (List.mem_of_getElem? (i := 30) rfl)
theorem w31 (H : Hyp Z a0) : (Jvm.Cond.code ({ cls := "com/example/annotable/annotable/ComparisonOfPinLaw", name := "expected", desc := "(ICC)Lcom/example/annotable/annotable/PathQuery$Comparison;" } : Jvm.MethodName) method_5_code (3 : Nat) (Option.some (Jvm.ClassFile.FieldType.object "com/example/annotable/annotable/PathQuery$Comparison"))).before a0 Z = true := H.1 _ (List.mem_of_getElem? (i := 31) rfl)
theorem w32 (H : Hyp Z a0) : (Jvm.Cond.methodLink "com/example/annotable/annotable/ComparisonOfPinLaw" (21 : Nat) ({ cls := "com/example/annotable/annotable/PathQuery$Comparison", name := "of", desc := "(Ljava/lang/String;)Lcom/example/annotable/annotable/PathQuery$Comparison;" } : Jvm.MethodName)).before a0 Z = true := H.1 _ (List.mem_of_getElem? (i := 32) rfl)
theorem w33 (H : Hyp Z a0) : (Jvm.Cond.static ({ cls := "com/example/annotable/annotable/PathQuery$Comparison", name := "of", desc := "(Ljava/lang/String;)Lcom/example/annotable/annotable/PathQuery$Comparison;" } : Jvm.MethodName)).before a0 Z = true := H.1 _ (List.mem_of_getElem? (i := 33) rfl)
theorem w34 (H : Hyp Z a0) : (Jvm.Cond.initialized "com/example/annotable/annotable/PathQuery$Comparison").before a0 Z = true := H.1 _ (List.mem_of_getElem? (i := 34) rfl)
theorem w35 (H : Hyp Z a0) : (Jvm.Cond.code ({ cls := "com/example/annotable/annotable/PathQuery$Comparison", name := "of", desc := "(Ljava/lang/String;)Lcom/example/annotable/annotable/PathQuery$Comparison;" } : Jvm.MethodName) prog_16_method_6_code (5 : Nat) (Option.some (Jvm.ClassFile.FieldType.object "com/example/annotable/annotable/PathQuery$Comparison"))).before a0 Z = true := H.1 _ (List.mem_of_getElem? (i := 35) rfl)
theorem w36 (H : Hyp Z a0) : (Jvm.Cond.methodLink "com/example/annotable/annotable/PathQuery$Comparison" (49 : Nat) ({ cls := "com/example/annotable/annotable/PathQuery$Comparison", name := "values", desc := "()[Lcom/example/annotable/annotable/PathQuery$Comparison;" } : Jvm.MethodName)).before a0 Z = true := H.1 _ (List.mem_of_getElem? (i := 36) rfl)
theorem w37 (H : Hyp Z a0) : (Jvm.Cond.static ({ cls := "com/example/annotable/annotable/PathQuery$Comparison", name := "values", desc := "()[Lcom/example/annotable/annotable/PathQuery$Comparison;" } : Jvm.MethodName)).before a0 Z = true := H.1 _ (List.mem_of_getElem? (i := 37) rfl)
theorem w38 (H : Hyp Z a0) : (Jvm.Cond.code ({ cls := "com/example/annotable/annotable/PathQuery$Comparison", name := "values", desc := "()[Lcom/example/annotable/annotable/PathQuery$Comparison;" } : Jvm.MethodName) prog_16_method_1_code (0 : Nat) (Option.some (Jvm.ClassFile.FieldType.array (Jvm.ClassFile.FieldType.object "com/example/annotable/annotable/PathQuery$Comparison")))).before a0 Z = true := H.1 _ (List.mem_of_getElem? (i := 38) rfl)
theorem w39 (H : Hyp Z a0) : (Jvm.Cond.fieldLink "com/example/annotable/annotable/PathQuery$Comparison" (22 : Nat) "com/example/annotable/annotable/PathQuery$Comparison" "$VALUES" "[Lcom/example/annotable/annotable/PathQuery$Comparison;").before a0 Z = true := H.1 _ (List.mem_of_getElem? (i := 39) rfl)
theorem w40 (H : Hyp Z a0) : (Jvm.Cond.laysStatic "com/example/annotable/annotable/PathQuery$Comparison" "$VALUES" "[Lcom/example/annotable/annotable/PathQuery$Comparison;").before a0 Z = true := H.1 _ (List.mem_of_getElem? (i := 40) rfl)
theorem w41 (H : Hyp Z a0) : (Jvm.Cond.methodLink "com/example/annotable/annotable/PathQuery$Comparison" (26 : Nat) ({ cls := "[Lcom/example/annotable/annotable/PathQuery$Comparison;", name := "clone", desc := "()Ljava/lang/Object;" } : Jvm.MethodName)).before a0 Z = true := H.1 _ (List.mem_of_getElem? (i := 41) rfl)
theorem w42 (H : Hyp Z a0) : (Jvm.Cond.sameMethod "[Lcom/example/annotable/annotable/PathQuery$Comparison;" "java/lang/Object" "clone" "()Ljava/lang/Object;").before a0 Z = true := H.1 _ (List.mem_of_getElem? (i := 42) rfl)
theorem w44 (H : Hyp Z a0) : (Jvm.Cond.instanceMethod ({ cls := "java/lang/Object", name := "clone", desc := "()Ljava/lang/Object;" } : Jvm.MethodName)).before a0 Z = true := H.1 _ (List.mem_of_getElem? (i := 44) rfl)
theorem w45 (H : Hyp Z a0) : (Jvm.Cond.selects "[Lcom/example/annotable/annotable/PathQuery$Comparison;" ({ cls := "[Lcom/example/annotable/annotable/PathQuery$Comparison;", name := "clone", desc := "()Ljava/lang/Object;" } : Jvm.MethodName) ({ cls := "java/lang/Object", name := "clone", desc := "()Ljava/lang/Object;" } : Jvm.MethodName)).before a0 Z = true := H.1 _ (List.mem_of_getElem? (i := 45) rfl)
theorem w46 (H : Hyp Z a0) : (Jvm.Cond.native ({ cls := "java/lang/Object", name := "clone", desc := "()Ljava/lang/Object;" } : Jvm.MethodName)).before a0 Z = true := H.1 _ (List.mem_of_getElem? (i := 46) rfl)
theorem w47 (H : Hyp Z a0) : (Jvm.Cond.castable "[Lcom/example/annotable/annotable/PathQuery$Comparison;" "java/lang/Cloneable").before a0 Z = true := H.1 _ (List.mem_of_getElem? (i := 47) rfl)
theorem w48 (H : Hyp Z a0) : (Jvm.Cond.laysStatic "com/example/annotable/annotable/PathQuery$Comparison" "EQUAL" "Lcom/example/annotable/annotable/PathQuery$Comparison;").before a0 Z = true := H.1 _ (List.mem_of_getElem? (i := 48) rfl)
theorem w49 (H : Hyp Z a0) : (Jvm.Cond.laysStatic "com/example/annotable/annotable/PathQuery$Comparison" "NOT_EQUAL" "Lcom/example/annotable/annotable/PathQuery$Comparison;").before a0 Z = true := H.1 _ (List.mem_of_getElem? (i := 49) rfl)
theorem w50 (H : Hyp Z a0) : (Jvm.Cond.laysStatic "com/example/annotable/annotable/PathQuery$Comparison" "LESS" "Lcom/example/annotable/annotable/PathQuery$Comparison;").before a0 Z = true := H.1 _ (List.mem_of_getElem? (i := 50) rfl)
theorem w51 (H : Hyp Z a0) : (Jvm.Cond.laysStatic "com/example/annotable/annotable/PathQuery$Comparison" "LESS_OR_EQUAL" "Lcom/example/annotable/annotable/PathQuery$Comparison;").before a0 Z = true := H.1 _ (List.mem_of_getElem? (i := 51) rfl)
theorem w52 (H : Hyp Z a0) : (Jvm.Cond.laysStatic "com/example/annotable/annotable/PathQuery$Comparison" "GREATER" "Lcom/example/annotable/annotable/PathQuery$Comparison;").before a0 Z = true := H.1 _ (List.mem_of_getElem? (i := 52) rfl)
theorem w53 (H : Hyp Z a0) : (Jvm.Cond.laysStatic "com/example/annotable/annotable/PathQuery$Comparison" "GREATER_OR_EQUAL" "Lcom/example/annotable/annotable/PathQuery$Comparison;").before a0 Z = true := H.1 _ (List.mem_of_getElem? (i := 53) rfl)
theorem w55 (H : Hyp Z a0) : (Jvm.Cond.classLink "com/example/annotable/annotable/PathQuery$Comparison" (27 : Nat) "[Lcom/example/annotable/annotable/PathQuery$Comparison;").before a0 Z = true := H.1 _ (List.mem_of_getElem? (i := 55) rfl)
theorem w57 (H : Hyp Z a0) : (Jvm.Cond.fieldLink "com/example/annotable/annotable/PathQuery$Comparison" (41 : Nat) "com/example/annotable/annotable/PathQuery$Comparison" "symbol" "Ljava/lang/String;").before a0 Z = true := H.1 _ (List.mem_of_getElem? (i := 57) rfl)
theorem w59 (H : Hyp Z a0) : (Jvm.Cond.methodLink "com/example/annotable/annotable/PathQuery$Comparison" (53 : Nat) ({ cls := "java/lang/String", name := "equals", desc := "(Ljava/lang/Object;)Z" } : Jvm.MethodName)).before a0 Z = true := H.1 _ (List.mem_of_getElem? (i := 59) rfl)
theorem w60 (H : Hyp Z a0) : (Jvm.Cond.declares ({ cls := "java/lang/String", name := "equals", desc := "(Ljava/lang/Object;)Z" } : Jvm.MethodName)).before a0 Z = true := H.1 _ (List.mem_of_getElem? (i := 60) rfl)
theorem w61 (H : Hyp Z a0) : (Jvm.Cond.instanceMethod ({ cls := "java/lang/String", name := "equals", desc := "(Ljava/lang/Object;)Z" } : Jvm.MethodName)).before a0 Z = true := H.1 _ (List.mem_of_getElem? (i := 61) rfl)
theorem w62 (H : Hyp Z a0) : (Jvm.Cond.selects "java/lang/String" ({ cls := "java/lang/String", name := "equals", desc := "(Ljava/lang/Object;)Z" } : Jvm.MethodName) ({ cls := "java/lang/String", name := "equals", desc := "(Ljava/lang/Object;)Z" } : Jvm.MethodName)).before a0 Z = true := H.1 _ (List.mem_of_getElem? (i := 62) rfl)
theorem w63 (H : Hyp Z a0) : (Jvm.Cond.code ({ cls := "java/lang/String", name := "equals", desc := "(Ljava/lang/Object;)Z" } : Jvm.MethodName) jdk_42_method_66_code (3 : Nat) (Option.some Jvm.ClassFile.FieldType.boolean)).before a0 Z = true := H.1 _ (List.mem_of_getElem? (i := 63) rfl)
theorem w64 (H : Hyp Z a0) : (Jvm.Cond.classLink "java/lang/String" (10 : Nat) "java/lang/String").before a0 Z = true := H.1 _ (List.mem_of_getElem? (i := 64) rfl)
theorem w65 (H : Hyp Z a0) : (Jvm.Cond.fieldLink "java/lang/String" (38 : Nat) "java/lang/String" "COMPACT_STRINGS" "Z").before a0 Z = true := H.1 _ (List.mem_of_getElem? (i := 65) rfl)
theorem w66 (H : Hyp Z a0) : (Jvm.Cond.methodLink "java/lang/String" (541 : Nat) ({ cls := "java/lang/StringLatin1", name := "equals", desc := "([B[B)Z" } : Jvm.MethodName)).before a0 Z = true := H.1 _ (List.mem_of_getElem? (i := 66) rfl)
theorem w67 (H : Hyp Z a0) : (Jvm.Cond.static ({ cls := "java/lang/StringLatin1", name := "equals", desc := "([B[B)Z" } : Jvm.MethodName)).before a0 Z = true := H.1 _ (List.mem_of_getElem? (i := 67) rfl)
theorem w68 (H : Hyp Z a0) : (Jvm.Cond.initialized "java/lang/StringLatin1").before a0 Z = true := H.1 _ (List.mem_of_getElem? (i := 68) rfl)
theorem w69 (H : Hyp Z a0) : (Jvm.Cond.code ({ cls := "java/lang/StringLatin1", name := "equals", desc := "([B[B)Z" } : Jvm.MethodName) jdk_43_method_13_code (3 : Nat) (Option.some Jvm.ClassFile.FieldType.boolean)).before a0 Z = true := H.1 _ (List.mem_of_getElem? (i := 69) rfl)
theorem w70 (H : Hyp Z a0) : (Jvm.Cond.methodLink "java/lang/String" (177 : Nat) ({ cls := "java/lang/StringUTF16", name := "compress", desc := "([CII)[B" } : Jvm.MethodName)).before a0 Z = true := H.1 _ (List.mem_of_getElem? (i := 70) rfl)
theorem w71 (H : Hyp Z a0) : (Jvm.Cond.static ({ cls := "java/lang/StringUTF16", name := "compress", desc := "([CII)[B" } : Jvm.MethodName)).before a0 Z = true := H.1 _ (List.mem_of_getElem? (i := 71) rfl)
theorem w72 (H : Hyp Z a0) : (Jvm.Cond.initialized "java/lang/StringUTF16").before a0 Z = true := H.1 _ (List.mem_of_getElem? (i := 72) rfl)
theorem w73 (H : Hyp Z a0) : (Jvm.Cond.code ({ cls := "java/lang/StringUTF16", name := "compress", desc := "([CII)[B" } : Jvm.MethodName) jdk_52_method_16_code (6 : Nat) (Option.some (Jvm.ClassFile.FieldType.array Jvm.ClassFile.FieldType.byte))).before a0 Z = true := H.1 _ (List.mem_of_getElem? (i := 73) rfl)
theorem w74 (H : Hyp Z a0) : (Jvm.Cond.methodLink "java/lang/StringUTF16" (115 : Nat) ({ cls := "java/lang/StringUTF16", name := "compress", desc := "([CI[BII)I" } : Jvm.MethodName)).before a0 Z = true := H.1 _ (List.mem_of_getElem? (i := 74) rfl)
theorem w75 (H : Hyp Z a0) : (Jvm.Cond.static ({ cls := "java/lang/StringUTF16", name := "compress", desc := "([CI[BII)I" } : Jvm.MethodName)).before a0 Z = true := H.1 _ (List.mem_of_getElem? (i := 75) rfl)
theorem w76 (H : Hyp Z a0) : (Jvm.Cond.code ({ cls := "java/lang/StringUTF16", name := "compress", desc := "([CI[BII)I" } : Jvm.MethodName) jdk_52_method_21_code (7 : Nat) (Option.some Jvm.ClassFile.FieldType.int)).before a0 Z = true := H.1 _ (List.mem_of_getElem? (i := 76) rfl)
theorem w77 (H : Hyp Z a0) : (Jvm.Cond.methodLink "java/lang/String" (47 : Nat) ({ cls := "java/lang/StringUTF16", name := "coderFromArrayLen", desc := "([BI)B" } : Jvm.MethodName)).before a0 Z = true := H.1 _ (List.mem_of_getElem? (i := 77) rfl)
theorem w78 (H : Hyp Z a0) : (Jvm.Cond.static ({ cls := "java/lang/StringUTF16", name := "coderFromArrayLen", desc := "([BI)B" } : Jvm.MethodName)).before a0 Z = true := H.1 _ (List.mem_of_getElem? (i := 78) rfl)
theorem w79 (H : Hyp Z a0) : (Jvm.Cond.code ({ cls := "java/lang/StringUTF16", name := "coderFromArrayLen", desc := "([BI)B" } : Jvm.MethodName) jdk_52_method_15_code (2 : Nat) (Option.some Jvm.ClassFile.FieldType.byte)).before a0 Z = true := H.1 _ (List.mem_of_getElem? (i := 79) rfl)
theorem w80 (H : Hyp Z a0) : (Jvm.Cond.methodLink "com/example/annotable/annotable/ComparisonOfPinLaw" (32 : Nat) ({ cls := "java/lang/String", name := "valueOf", desc := "(C)Ljava/lang/String;" } : Jvm.MethodName)).before a0 Z = true := H.1 _ (List.mem_of_getElem? (i := 80) rfl)
theorem w81 (H : Hyp Z a0) : (Jvm.Cond.static ({ cls := "java/lang/String", name := "valueOf", desc := "(C)Ljava/lang/String;" } : Jvm.MethodName)).before a0 Z = true := H.1 _ (List.mem_of_getElem? (i := 81) rfl)
theorem w82 (H : Hyp Z a0) : (Jvm.Cond.code ({ cls := "java/lang/String", name := "valueOf", desc := "(C)Ljava/lang/String;" } : Jvm.MethodName) jdk_42_method_139_code (1 : Nat) (Option.some (Jvm.ClassFile.FieldType.object "java/lang/String"))).before a0 Z = true := H.1 _ (List.mem_of_getElem? (i := 82) rfl)
theorem w83 (H : Hyp Z a0) : (Jvm.Cond.methodLink "java/lang/String" (1015 : Nat) ({ cls := "java/lang/StringLatin1", name := "canEncode", desc := "(C)Z" } : Jvm.MethodName)).before a0 Z = true := H.1 _ (List.mem_of_getElem? (i := 83) rfl)
theorem w84 (H : Hyp Z a0) : (Jvm.Cond.static ({ cls := "java/lang/StringLatin1", name := "canEncode", desc := "(C)Z" } : Jvm.MethodName)).before a0 Z = true := H.1 _ (List.mem_of_getElem? (i := 84) rfl)
theorem w85 (H : Hyp Z a0) : (Jvm.Cond.code ({ cls := "java/lang/StringLatin1", name := "canEncode", desc := "(C)Z" } : Jvm.MethodName) jdk_43_method_3_code (1 : Nat) (Option.some Jvm.ClassFile.FieldType.boolean)).before a0 Z = true := H.1 _ (List.mem_of_getElem? (i := 85) rfl)
theorem w86 (H : Hyp Z a0) : (Jvm.Cond.methodLink "java/lang/String" (1018 : Nat) ({ cls := "java/lang/StringLatin1", name := "toBytes", desc := "(C)[B" } : Jvm.MethodName)).before a0 Z = true := H.1 _ (List.mem_of_getElem? (i := 86) rfl)
theorem w87 (H : Hyp Z a0) : (Jvm.Cond.static ({ cls := "java/lang/StringLatin1", name := "toBytes", desc := "(C)[B" } : Jvm.MethodName)).before a0 Z = true := H.1 _ (List.mem_of_getElem? (i := 87) rfl)
theorem w88 (H : Hyp Z a0) : (Jvm.Cond.code ({ cls := "java/lang/StringLatin1", name := "toBytes", desc := "(C)[B" } : Jvm.MethodName) jdk_43_method_46_code (1 : Nat) (Option.some (Jvm.ClassFile.FieldType.array Jvm.ClassFile.FieldType.byte))).before a0 Z = true := H.1 _ (List.mem_of_getElem? (i := 88) rfl)
theorem w89 (H : Hyp Z a0) : (Jvm.Cond.methodLink "java/lang/String" (209 : Nat) ({ cls := "java/lang/String", name := "<init>", desc := "([BB)V" } : Jvm.MethodName)).before a0 Z = true := H.1 _ (List.mem_of_getElem? (i := 89) rfl)
theorem w90 (H : Hyp Z a0) : (Jvm.Cond.instanceMethod ({ cls := "java/lang/String", name := "<init>", desc := "([BB)V" } : Jvm.MethodName)).before a0 Z = true := H.1 _ (List.mem_of_getElem? (i := 90) rfl)
theorem w91 (H : Hyp Z a0) : (Jvm.Cond.code ({ cls := "java/lang/String", name := "<init>", desc := "([BB)V" } : Jvm.MethodName) jdk_42_method_151_code (3 : Nat) (Option.none : Option Jvm.ClassFile.FieldType)).before a0 Z = true := H.1 _ (List.mem_of_getElem? (i := 91) rfl)
theorem w92 (H : Hyp Z a0) : (Jvm.Cond.fieldLink "com/example/annotable/annotable/ComparisonOfPinLaw" (43 : Nat) "com/example/annotable/annotable/PathQuery$Comparison" "GREATER" "Lcom/example/annotable/annotable/PathQuery$Comparison;").before a0 Z = true := H.1 _ (List.mem_of_getElem? (i := 92) rfl)
theorem w93 (H : Hyp Z a0) : (Jvm.Cond.fieldLink "com/example/annotable/annotable/ComparisonOfPinLaw" (52 : Nat) "com/example/annotable/annotable/PathQuery$Comparison" "GREATER_OR_EQUAL" "Lcom/example/annotable/annotable/PathQuery$Comparison;").before a0 Z = true := H.1 _ (List.mem_of_getElem? (i := 93) rfl)
theorem w94 (H : Hyp Z a0) : (Jvm.Cond.fieldLink "com/example/annotable/annotable/ComparisonOfPinLaw" (40 : Nat) "com/example/annotable/annotable/PathQuery$Comparison" "LESS" "Lcom/example/annotable/annotable/PathQuery$Comparison;").before a0 Z = true := H.1 _ (List.mem_of_getElem? (i := 94) rfl)
theorem w95 (H : Hyp Z a0) : (Jvm.Cond.fieldLink "com/example/annotable/annotable/ComparisonOfPinLaw" (36 : Nat) "com/example/annotable/annotable/PathQuery$Comparison" "EQUAL" "Lcom/example/annotable/annotable/PathQuery$Comparison;").before a0 Z = true := H.1 _ (List.mem_of_getElem? (i := 95) rfl)
theorem w96 (H : Hyp Z a0) : (Jvm.Cond.fieldLink "com/example/annotable/annotable/ComparisonOfPinLaw" (46 : Nat) "com/example/annotable/annotable/PathQuery$Comparison" "NOT_EQUAL" "Lcom/example/annotable/annotable/PathQuery$Comparison;").before a0 Z = true := H.1 _ (List.mem_of_getElem? (i := 96) rfl)
theorem w97 (H : Hyp Z a0) : (Jvm.Cond.fieldLink "com/example/annotable/annotable/ComparisonOfPinLaw" (49 : Nat) "com/example/annotable/annotable/PathQuery$Comparison" "LESS_OR_EQUAL" "Lcom/example/annotable/annotable/PathQuery$Comparison;").before a0 Z = true := H.1 _ (List.mem_of_getElem? (i := 97) rfl)
theorem w98 (H : Hyp Z a0) : (Jvm.Cond.initializedFor "java/lang/String" "COMPACT_STRINGS" "Z").before a0 Z = true := H.2.2.2.1 _ (List.mem_of_getElem? (i := 0) rfl)
theorem w99 (H : Hyp Z a0) : (Jvm.Cond.isInt (Jvm.Term.static "java/lang/String" "COMPACT_STRINGS" "Z")).before a0 Z = true := H.2.2.2.1 _ (List.mem_of_getElem? (i := 1) rfl)
theorem w100 (H : Hyp Z a0) : (Jvm.Cond.not (Jvm.Cond.eq (Jvm.Term.static "java/lang/String" "COMPACT_STRINGS" "Z") (Jvm.Term.int (0 : Int32)))).before a0 Z = true := H.2.2.2.1 _ (List.mem_of_getElem? (i := 2) rfl)
theorem n0 (H : Hyp Z a0) : (Jvm.Cond.arrayOf (Jvm.Term.static "com/example/annotable/annotable/PathQuery$Comparison" "$VALUES" "[Lcom/example/annotable/annotable/PathQuery$Comparison;") (Jvm.ClassFile.FieldType.object "com/example/annotable/annotable/PathQuery$Comparison")).value a0 Z none Z [] = some true := (and_e H.2.1).1
theorem n1 (H : Hyp Z a0) : (Jvm.Cond.exactly (Jvm.Term.static "com/example/annotable/annotable/PathQuery$Comparison" "$VALUES" "[Lcom/example/annotable/annotable/PathQuery$Comparison;") "[Lcom/example/annotable/annotable/PathQuery$Comparison;").value a0 Z none Z [] = some true := (and_e (and_e H.2.1).2).1
theorem n2 (H : Hyp Z a0) : (Jvm.Cond.eq (Jvm.Term.length (Jvm.Term.static "com/example/annotable/annotable/PathQuery$Comparison" "$VALUES" "[Lcom/example/annotable/annotable/PathQuery$Comparison;")) (Jvm.Term.int (6 : Int32))).value a0 Z none Z [] = some true := (and_e (and_e (and_e H.2.1).2).2).1
theorem n3 (H : Hyp Z a0) : (Jvm.Cond.exactly (Jvm.Term.static "com/example/annotable/annotable/PathQuery$Comparison" "EQUAL" "Lcom/example/annotable/annotable/PathQuery$Comparison;") "com/example/annotable/annotable/PathQuery$Comparison").value a0 Z none Z [] = some true := (and_e (and_e (and_e (and_e H.2.1).2).2).2).1
theorem n4 (H : Hyp Z a0) : (Jvm.Cond.eq (Jvm.Term.elem (Jvm.Term.static "com/example/annotable/annotable/PathQuery$Comparison" "$VALUES" "[Lcom/example/annotable/annotable/PathQuery$Comparison;") (Jvm.Term.int (0 : Int32))) (Jvm.Term.static "com/example/annotable/annotable/PathQuery$Comparison" "EQUAL" "Lcom/example/annotable/annotable/PathQuery$Comparison;")).value a0 Z none Z [] = some true := (and_e (and_e (and_e (and_e (and_e H.2.1).2).2).2).2).1
theorem n5 (H : Hyp Z a0) : (Jvm.Cond.exactly (Jvm.Term.static "com/example/annotable/annotable/PathQuery$Comparison" "NOT_EQUAL" "Lcom/example/annotable/annotable/PathQuery$Comparison;") "com/example/annotable/annotable/PathQuery$Comparison").value a0 Z none Z [] = some true := (and_e (and_e (and_e (and_e (and_e (and_e H.2.1).2).2).2).2).2).1
theorem n6 (H : Hyp Z a0) : (Jvm.Cond.eq (Jvm.Term.elem (Jvm.Term.static "com/example/annotable/annotable/PathQuery$Comparison" "$VALUES" "[Lcom/example/annotable/annotable/PathQuery$Comparison;") (Jvm.Term.int (1 : Int32))) (Jvm.Term.static "com/example/annotable/annotable/PathQuery$Comparison" "NOT_EQUAL" "Lcom/example/annotable/annotable/PathQuery$Comparison;")).value a0 Z none Z [] = some true := (and_e (and_e (and_e (and_e (and_e (and_e (and_e H.2.1).2).2).2).2).2).2).1
theorem n7 (H : Hyp Z a0) : (Jvm.Cond.exactly (Jvm.Term.static "com/example/annotable/annotable/PathQuery$Comparison" "LESS" "Lcom/example/annotable/annotable/PathQuery$Comparison;") "com/example/annotable/annotable/PathQuery$Comparison").value a0 Z none Z [] = some true := (and_e (and_e (and_e (and_e (and_e (and_e (and_e (and_e H.2.1).2).2).2).2).2).2).2).1
theorem n8 (H : Hyp Z a0) : (Jvm.Cond.eq (Jvm.Term.elem (Jvm.Term.static "com/example/annotable/annotable/PathQuery$Comparison" "$VALUES" "[Lcom/example/annotable/annotable/PathQuery$Comparison;") (Jvm.Term.int (2 : Int32))) (Jvm.Term.static "com/example/annotable/annotable/PathQuery$Comparison" "LESS" "Lcom/example/annotable/annotable/PathQuery$Comparison;")).value a0 Z none Z [] = some true := (and_e (and_e (and_e (and_e (and_e (and_e (and_e (and_e (and_e H.2.1).2).2).2).2).2).2).2).2).1
theorem n9 (H : Hyp Z a0) : (Jvm.Cond.exactly (Jvm.Term.static "com/example/annotable/annotable/PathQuery$Comparison" "LESS_OR_EQUAL" "Lcom/example/annotable/annotable/PathQuery$Comparison;") "com/example/annotable/annotable/PathQuery$Comparison").value a0 Z none Z [] = some true := (and_e (and_e (and_e (and_e (and_e (and_e (and_e (and_e (and_e (and_e H.2.1).2).2).2).2).2).2).2).2).2).1
theorem n10 (H : Hyp Z a0) : (Jvm.Cond.eq (Jvm.Term.elem (Jvm.Term.static "com/example/annotable/annotable/PathQuery$Comparison" "$VALUES" "[Lcom/example/annotable/annotable/PathQuery$Comparison;") (Jvm.Term.int (3 : Int32))) (Jvm.Term.static "com/example/annotable/annotable/PathQuery$Comparison" "LESS_OR_EQUAL" "Lcom/example/annotable/annotable/PathQuery$Comparison;")).value a0 Z none Z [] = some true := (and_e (and_e (and_e (and_e (and_e (and_e (and_e (and_e (and_e (and_e (and_e H.2.1).2).2).2).2).2).2).2).2).2).2).1
theorem n11 (H : Hyp Z a0) : (Jvm.Cond.exactly (Jvm.Term.static "com/example/annotable/annotable/PathQuery$Comparison" "GREATER" "Lcom/example/annotable/annotable/PathQuery$Comparison;") "com/example/annotable/annotable/PathQuery$Comparison").value a0 Z none Z [] = some true := (and_e (and_e (and_e (and_e (and_e (and_e (and_e (and_e (and_e (and_e (and_e (and_e H.2.1).2).2).2).2).2).2).2).2).2).2).2).1
theorem n12 (H : Hyp Z a0) : (Jvm.Cond.eq (Jvm.Term.elem (Jvm.Term.static "com/example/annotable/annotable/PathQuery$Comparison" "$VALUES" "[Lcom/example/annotable/annotable/PathQuery$Comparison;") (Jvm.Term.int (4 : Int32))) (Jvm.Term.static "com/example/annotable/annotable/PathQuery$Comparison" "GREATER" "Lcom/example/annotable/annotable/PathQuery$Comparison;")).value a0 Z none Z [] = some true := (and_e (and_e (and_e (and_e (and_e (and_e (and_e (and_e (and_e (and_e (and_e (and_e (and_e H.2.1).2).2).2).2).2).2).2).2).2).2).2).2).1
theorem n13 (H : Hyp Z a0) : (Jvm.Cond.exactly (Jvm.Term.static "com/example/annotable/annotable/PathQuery$Comparison" "GREATER_OR_EQUAL" "Lcom/example/annotable/annotable/PathQuery$Comparison;") "com/example/annotable/annotable/PathQuery$Comparison").value a0 Z none Z [] = some true := (and_e (and_e (and_e (and_e (and_e (and_e (and_e (and_e (and_e (and_e (and_e (and_e (and_e (and_e H.2.1).2).2).2).2).2).2).2).2).2).2).2).2).2).1
theorem n14 (H : Hyp Z a0) : (Jvm.Cond.eq (Jvm.Term.elem (Jvm.Term.static "com/example/annotable/annotable/PathQuery$Comparison" "$VALUES" "[Lcom/example/annotable/annotable/PathQuery$Comparison;") (Jvm.Term.int (5 : Int32))) (Jvm.Term.static "com/example/annotable/annotable/PathQuery$Comparison" "GREATER_OR_EQUAL" "Lcom/example/annotable/annotable/PathQuery$Comparison;")).value a0 Z none Z [] = some true := (and_e (and_e (and_e (and_e (and_e (and_e (and_e (and_e (and_e (and_e (and_e (and_e (and_e (and_e (and_e H.2.1).2).2).2).2).2).2).2).2).2).2).2).2).2).2).1
theorem n15 (H : Hyp Z a0) : (Jvm.Cond.exactly (Jvm.Term.field (Jvm.Term.static "com/example/annotable/annotable/PathQuery$Comparison" "EQUAL" "Lcom/example/annotable/annotable/PathQuery$Comparison;") "com/example/annotable/annotable/PathQuery$Comparison" "symbol" "Ljava/lang/String;") "java/lang/String").value a0 Z none Z [] = some true := (and_e (and_e (and_e (and_e (and_e (and_e (and_e (and_e (and_e (and_e (and_e (and_e (and_e (and_e (and_e (and_e H.2.1).2).2).2).2).2).2).2).2).2).2).2).2).2).2).2).1
theorem n16 (H : Hyp Z a0) : (Jvm.Cond.eq (Jvm.Term.field (Jvm.Term.field (Jvm.Term.static "com/example/annotable/annotable/PathQuery$Comparison" "EQUAL" "Lcom/example/annotable/annotable/PathQuery$Comparison;") "com/example/annotable/annotable/PathQuery$Comparison" "symbol" "Ljava/lang/String;") "java/lang/String" "coder" "B") (Jvm.Term.int (0 : Int32))).value a0 Z none Z [] = some true := (and_e (and_e (and_e (and_e (and_e (and_e (and_e (and_e (and_e (and_e (and_e (and_e (and_e (and_e (and_e (and_e (and_e H.2.1).2).2).2).2).2).2).2).2).2).2).2).2).2).2).2).2).1
theorem n17 (H : Hyp Z a0) : (Jvm.Cond.arrayOf (Jvm.Term.field (Jvm.Term.field (Jvm.Term.static "com/example/annotable/annotable/PathQuery$Comparison" "EQUAL" "Lcom/example/annotable/annotable/PathQuery$Comparison;") "com/example/annotable/annotable/PathQuery$Comparison" "symbol" "Ljava/lang/String;") "java/lang/String" "value" "[B") Jvm.ClassFile.FieldType.byte).value a0 Z none Z [] = some true := (and_e (and_e (and_e (and_e (and_e (and_e (and_e (and_e (and_e (and_e (and_e (and_e (and_e (and_e (and_e (and_e (and_e (and_e H.2.1).2).2).2).2).2).2).2).2).2).2).2).2).2).2).2).2).2).1
theorem n18 (H : Hyp Z a0) : (Jvm.Cond.eq (Jvm.Term.length (Jvm.Term.field (Jvm.Term.field (Jvm.Term.static "com/example/annotable/annotable/PathQuery$Comparison" "EQUAL" "Lcom/example/annotable/annotable/PathQuery$Comparison;") "com/example/annotable/annotable/PathQuery$Comparison" "symbol" "Ljava/lang/String;") "java/lang/String" "value" "[B")) (Jvm.Term.int (1 : Int32))).value a0 Z none Z [] = some true := (and_e (and_e (and_e (and_e (and_e (and_e (and_e (and_e (and_e (and_e (and_e (and_e (and_e (and_e (and_e (and_e (and_e (and_e (and_e H.2.1).2).2).2).2).2).2).2).2).2).2).2).2).2).2).2).2).2).2).1
theorem n19 (H : Hyp Z a0) : (Jvm.Cond.exactly (Jvm.Term.field (Jvm.Term.static "com/example/annotable/annotable/PathQuery$Comparison" "NOT_EQUAL" "Lcom/example/annotable/annotable/PathQuery$Comparison;") "com/example/annotable/annotable/PathQuery$Comparison" "symbol" "Ljava/lang/String;") "java/lang/String").value a0 Z none Z [] = some true := (and_e (and_e (and_e (and_e (and_e (and_e (and_e (and_e (and_e (and_e (and_e (and_e (and_e (and_e (and_e (and_e (and_e (and_e (and_e (and_e H.2.1).2).2).2).2).2).2).2).2).2).2).2).2).2).2).2).2).2).2).2).1
theorem n20 (H : Hyp Z a0) : (Jvm.Cond.eq (Jvm.Term.field (Jvm.Term.field (Jvm.Term.static "com/example/annotable/annotable/PathQuery$Comparison" "NOT_EQUAL" "Lcom/example/annotable/annotable/PathQuery$Comparison;") "com/example/annotable/annotable/PathQuery$Comparison" "symbol" "Ljava/lang/String;") "java/lang/String" "coder" "B") (Jvm.Term.int (0 : Int32))).value a0 Z none Z [] = some true := (and_e (and_e (and_e (and_e (and_e (and_e (and_e (and_e (and_e (and_e (and_e (and_e (and_e (and_e (and_e (and_e (and_e (and_e (and_e (and_e (and_e H.2.1).2).2).2).2).2).2).2).2).2).2).2).2).2).2).2).2).2).2).2).2).1
theorem n21 (H : Hyp Z a0) : (Jvm.Cond.arrayOf (Jvm.Term.field (Jvm.Term.field (Jvm.Term.static "com/example/annotable/annotable/PathQuery$Comparison" "NOT_EQUAL" "Lcom/example/annotable/annotable/PathQuery$Comparison;") "com/example/annotable/annotable/PathQuery$Comparison" "symbol" "Ljava/lang/String;") "java/lang/String" "value" "[B") Jvm.ClassFile.FieldType.byte).value a0 Z none Z [] = some true := (and_e (and_e (and_e (and_e (and_e (and_e (and_e (and_e (and_e (and_e (and_e (and_e (and_e (and_e (and_e (and_e (and_e (and_e (and_e (and_e (and_e (and_e H.2.1).2).2).2).2).2).2).2).2).2).2).2).2).2).2).2).2).2).2).2).2).2).1
theorem n22 (H : Hyp Z a0) : (Jvm.Cond.eq (Jvm.Term.length (Jvm.Term.field (Jvm.Term.field (Jvm.Term.static "com/example/annotable/annotable/PathQuery$Comparison" "NOT_EQUAL" "Lcom/example/annotable/annotable/PathQuery$Comparison;") "com/example/annotable/annotable/PathQuery$Comparison" "symbol" "Ljava/lang/String;") "java/lang/String" "value" "[B")) (Jvm.Term.int (2 : Int32))).value a0 Z none Z [] = some true := (and_e (and_e (and_e (and_e (and_e (and_e (and_e (and_e (and_e (and_e (and_e (and_e (and_e (and_e (and_e (and_e (and_e (and_e (and_e (and_e (and_e (and_e (and_e H.2.1).2).2).2).2).2).2).2).2).2).2).2).2).2).2).2).2).2).2).2).2).2).2).1
theorem n23 (H : Hyp Z a0) : (Jvm.Cond.exactly (Jvm.Term.field (Jvm.Term.static "com/example/annotable/annotable/PathQuery$Comparison" "LESS" "Lcom/example/annotable/annotable/PathQuery$Comparison;") "com/example/annotable/annotable/PathQuery$Comparison" "symbol" "Ljava/lang/String;") "java/lang/String").value a0 Z none Z [] = some true := (and_e (and_e (and_e (and_e (and_e (and_e (and_e (and_e (and_e (and_e (and_e (and_e (and_e (and_e (and_e (and_e (and_e (and_e (and_e (and_e (and_e (and_e (and_e (and_e H.2.1).2).2).2).2).2).2).2).2).2).2).2).2).2).2).2).2).2).2).2).2).2).2).2).1
theorem n24 (H : Hyp Z a0) : (Jvm.Cond.eq (Jvm.Term.field (Jvm.Term.field (Jvm.Term.static "com/example/annotable/annotable/PathQuery$Comparison" "LESS" "Lcom/example/annotable/annotable/PathQuery$Comparison;") "com/example/annotable/annotable/PathQuery$Comparison" "symbol" "Ljava/lang/String;") "java/lang/String" "coder" "B") (Jvm.Term.int (0 : Int32))).value a0 Z none Z [] = some true := (and_e (and_e (and_e (and_e (and_e (and_e (and_e (and_e (and_e (and_e (and_e (and_e (and_e (and_e (and_e (and_e (and_e (and_e (and_e (and_e (and_e (and_e (and_e (and_e (and_e H.2.1).2).2).2).2).2).2).2).2).2).2).2).2).2).2).2).2).2).2).2).2).2).2).2).2).1
theorem n25 (H : Hyp Z a0) : (Jvm.Cond.arrayOf (Jvm.Term.field (Jvm.Term.field (Jvm.Term.static "com/example/annotable/annotable/PathQuery$Comparison" "LESS" "Lcom/example/annotable/annotable/PathQuery$Comparison;") "com/example/annotable/annotable/PathQuery$Comparison" "symbol" "Ljava/lang/String;") "java/lang/String" "value" "[B") Jvm.ClassFile.FieldType.byte).value a0 Z none Z [] = some true := (and_e (and_e (and_e (and_e (and_e (and_e (and_e (and_e (and_e (and_e (and_e (and_e (and_e (and_e (and_e (and_e (and_e (and_e (and_e (and_e (and_e (and_e (and_e (and_e (and_e (and_e H.2.1).2).2).2).2).2).2).2).2).2).2).2).2).2).2).2).2).2).2).2).2).2).2).2).2).2).1
theorem n26 (H : Hyp Z a0) : (Jvm.Cond.eq (Jvm.Term.length (Jvm.Term.field (Jvm.Term.field (Jvm.Term.static "com/example/annotable/annotable/PathQuery$Comparison" "LESS" "Lcom/example/annotable/annotable/PathQuery$Comparison;") "com/example/annotable/annotable/PathQuery$Comparison" "symbol" "Ljava/lang/String;") "java/lang/String" "value" "[B")) (Jvm.Term.int (1 : Int32))).value a0 Z none Z [] = some true := (and_e (and_e (and_e (and_e (and_e (and_e (and_e (and_e (and_e (and_e (and_e (and_e (and_e (and_e (and_e (and_e (and_e (and_e (and_e (and_e (and_e (and_e (and_e (and_e (and_e (and_e (and_e H.2.1).2).2).2).2).2).2).2).2).2).2).2).2).2).2).2).2).2).2).2).2).2).2).2).2).2).2).1
theorem n27 (H : Hyp Z a0) : (Jvm.Cond.exactly (Jvm.Term.field (Jvm.Term.static "com/example/annotable/annotable/PathQuery$Comparison" "LESS_OR_EQUAL" "Lcom/example/annotable/annotable/PathQuery$Comparison;") "com/example/annotable/annotable/PathQuery$Comparison" "symbol" "Ljava/lang/String;") "java/lang/String").value a0 Z none Z [] = some true := (and_e (and_e (and_e (and_e (and_e (and_e (and_e (and_e (and_e (and_e (and_e (and_e (and_e (and_e (and_e (and_e (and_e (and_e (and_e (and_e (and_e (and_e (and_e (and_e (and_e (and_e (and_e (and_e H.2.1).2).2).2).2).2).2).2).2).2).2).2).2).2).2).2).2).2).2).2).2).2).2).2).2).2).2).2).1
theorem n28 (H : Hyp Z a0) : (Jvm.Cond.eq (Jvm.Term.field (Jvm.Term.field (Jvm.Term.static "com/example/annotable/annotable/PathQuery$Comparison" "LESS_OR_EQUAL" "Lcom/example/annotable/annotable/PathQuery$Comparison;") "com/example/annotable/annotable/PathQuery$Comparison" "symbol" "Ljava/lang/String;") "java/lang/String" "coder" "B") (Jvm.Term.int (0 : Int32))).value a0 Z none Z [] = some true := (and_e (and_e (and_e (and_e (and_e (and_e (and_e (and_e (and_e (and_e (and_e (and_e (and_e (and_e (and_e (and_e (and_e (and_e (and_e (and_e (and_e (and_e (and_e (and_e (and_e (and_e (and_e (and_e (and_e H.2.1).2).2).2).2).2).2).2).2).2).2).2).2).2).2).2).2).2).2).2).2).2).2).2).2).2).2).2).2).1
theorem n29 (H : Hyp Z a0) : (Jvm.Cond.arrayOf (Jvm.Term.field (Jvm.Term.field (Jvm.Term.static "com/example/annotable/annotable/PathQuery$Comparison" "LESS_OR_EQUAL" "Lcom/example/annotable/annotable/PathQuery$Comparison;") "com/example/annotable/annotable/PathQuery$Comparison" "symbol" "Ljava/lang/String;") "java/lang/String" "value" "[B") Jvm.ClassFile.FieldType.byte).value a0 Z none Z [] = some true := (and_e (and_e (and_e (and_e (and_e (and_e (and_e (and_e (and_e (and_e (and_e (and_e (and_e (and_e (and_e (and_e (and_e (and_e (and_e (and_e (and_e (and_e (and_e (and_e (and_e (and_e (and_e (and_e (and_e (and_e H.2.1).2).2).2).2).2).2).2).2).2).2).2).2).2).2).2).2).2).2).2).2).2).2).2).2).2).2).2).2).2).1
theorem n30 (H : Hyp Z a0) : (Jvm.Cond.eq (Jvm.Term.length (Jvm.Term.field (Jvm.Term.field (Jvm.Term.static "com/example/annotable/annotable/PathQuery$Comparison" "LESS_OR_EQUAL" "Lcom/example/annotable/annotable/PathQuery$Comparison;") "com/example/annotable/annotable/PathQuery$Comparison" "symbol" "Ljava/lang/String;") "java/lang/String" "value" "[B")) (Jvm.Term.int (2 : Int32))).value a0 Z none Z [] = some true := (and_e (and_e (and_e (and_e (and_e (and_e (and_e (and_e (and_e (and_e (and_e (and_e (and_e (and_e (and_e (and_e (and_e (and_e (and_e (and_e (and_e (and_e (and_e (and_e (and_e (and_e (and_e (and_e (and_e (and_e (and_e H.2.1).2).2).2).2).2).2).2).2).2).2).2).2).2).2).2).2).2).2).2).2).2).2).2).2).2).2).2).2).2).2).1
theorem n31 (H : Hyp Z a0) : (Jvm.Cond.exactly (Jvm.Term.field (Jvm.Term.static "com/example/annotable/annotable/PathQuery$Comparison" "GREATER" "Lcom/example/annotable/annotable/PathQuery$Comparison;") "com/example/annotable/annotable/PathQuery$Comparison" "symbol" "Ljava/lang/String;") "java/lang/String").value a0 Z none Z [] = some true := (and_e (and_e (and_e (and_e (and_e (and_e (and_e (and_e (and_e (and_e (and_e (and_e (and_e (and_e (and_e (and_e (and_e (and_e (and_e (and_e (and_e (and_e (and_e (and_e (and_e (and_e (and_e (and_e (and_e (and_e (and_e (and_e H.2.1).2).2).2).2).2).2).2).2).2).2).2).2).2).2).2).2).2).2).2).2).2).2).2).2).2).2).2).2).2).2).2).1
theorem n32 (H : Hyp Z a0) : (Jvm.Cond.eq (Jvm.Term.field (Jvm.Term.field (Jvm.Term.static "com/example/annotable/annotable/PathQuery$Comparison" "GREATER" "Lcom/example/annotable/annotable/PathQuery$Comparison;") "com/example/annotable/annotable/PathQuery$Comparison" "symbol" "Ljava/lang/String;") "java/lang/String" "coder" "B") (Jvm.Term.int (0 : Int32))).value a0 Z none Z [] = some true := (and_e (and_e (and_e (and_e (and_e (and_e (and_e (and_e (and_e (and_e (and_e (and_e (and_e (and_e (and_e (and_e (and_e (and_e (and_e (and_e (and_e (and_e (and_e (and_e (and_e (and_e (and_e (and_e (and_e (and_e (and_e (and_e (and_e H.2.1).2).2).2).2).2).2).2).2).2).2).2).2).2).2).2).2).2).2).2).2).2).2).2).2).2).2).2).2).2).2).2).2).1
theorem n33 (H : Hyp Z a0) : (Jvm.Cond.arrayOf (Jvm.Term.field (Jvm.Term.field (Jvm.Term.static "com/example/annotable/annotable/PathQuery$Comparison" "GREATER" "Lcom/example/annotable/annotable/PathQuery$Comparison;") "com/example/annotable/annotable/PathQuery$Comparison" "symbol" "Ljava/lang/String;") "java/lang/String" "value" "[B") Jvm.ClassFile.FieldType.byte).value a0 Z none Z [] = some true := (and_e (and_e (and_e (and_e (and_e (and_e (and_e (and_e (and_e (and_e (and_e (and_e (and_e (and_e (and_e (and_e (and_e (and_e (and_e (and_e (and_e (and_e (and_e (and_e (and_e (and_e (and_e (and_e (and_e (and_e (and_e (and_e (and_e (and_e H.2.1).2).2).2).2).2).2).2).2).2).2).2).2).2).2).2).2).2).2).2).2).2).2).2).2).2).2).2).2).2).2).2).2).2).1
theorem n34 (H : Hyp Z a0) : (Jvm.Cond.eq (Jvm.Term.length (Jvm.Term.field (Jvm.Term.field (Jvm.Term.static "com/example/annotable/annotable/PathQuery$Comparison" "GREATER" "Lcom/example/annotable/annotable/PathQuery$Comparison;") "com/example/annotable/annotable/PathQuery$Comparison" "symbol" "Ljava/lang/String;") "java/lang/String" "value" "[B")) (Jvm.Term.int (1 : Int32))).value a0 Z none Z [] = some true := (and_e (and_e (and_e (and_e (and_e (and_e (and_e (and_e (and_e (and_e (and_e (and_e (and_e (and_e (and_e (and_e (and_e (and_e (and_e (and_e (and_e (and_e (and_e (and_e (and_e (and_e (and_e (and_e (and_e (and_e (and_e (and_e (and_e (and_e (and_e H.2.1).2).2).2).2).2).2).2).2).2).2).2).2).2).2).2).2).2).2).2).2).2).2).2).2).2).2).2).2).2).2).2).2).2).2).1
theorem n35 (H : Hyp Z a0) : (Jvm.Cond.exactly (Jvm.Term.field (Jvm.Term.static "com/example/annotable/annotable/PathQuery$Comparison" "GREATER_OR_EQUAL" "Lcom/example/annotable/annotable/PathQuery$Comparison;") "com/example/annotable/annotable/PathQuery$Comparison" "symbol" "Ljava/lang/String;") "java/lang/String").value a0 Z none Z [] = some true := (and_e (and_e (and_e (and_e (and_e (and_e (and_e (and_e (and_e (and_e (and_e (and_e (and_e (and_e (and_e (and_e (and_e (and_e (and_e (and_e (and_e (and_e (and_e (and_e (and_e (and_e (and_e (and_e (and_e (and_e (and_e (and_e (and_e (and_e (and_e (and_e H.2.1).2).2).2).2).2).2).2).2).2).2).2).2).2).2).2).2).2).2).2).2).2).2).2).2).2).2).2).2).2).2).2).2).2).2).2).1
theorem n36 (H : Hyp Z a0) : (Jvm.Cond.eq (Jvm.Term.field (Jvm.Term.field (Jvm.Term.static "com/example/annotable/annotable/PathQuery$Comparison" "GREATER_OR_EQUAL" "Lcom/example/annotable/annotable/PathQuery$Comparison;") "com/example/annotable/annotable/PathQuery$Comparison" "symbol" "Ljava/lang/String;") "java/lang/String" "coder" "B") (Jvm.Term.int (0 : Int32))).value a0 Z none Z [] = some true := (and_e (and_e (and_e (and_e (and_e (and_e (and_e (and_e (and_e (and_e (and_e (and_e (and_e (and_e (and_e (and_e (and_e (and_e (and_e (and_e (and_e (and_e (and_e (and_e (and_e (and_e (and_e (and_e (and_e (and_e (and_e (and_e (and_e (and_e (and_e (and_e (and_e H.2.1).2).2).2).2).2).2).2).2).2).2).2).2).2).2).2).2).2).2).2).2).2).2).2).2).2).2).2).2).2).2).2).2).2).2).2).2).1
theorem n37 (H : Hyp Z a0) : (Jvm.Cond.arrayOf (Jvm.Term.field (Jvm.Term.field (Jvm.Term.static "com/example/annotable/annotable/PathQuery$Comparison" "GREATER_OR_EQUAL" "Lcom/example/annotable/annotable/PathQuery$Comparison;") "com/example/annotable/annotable/PathQuery$Comparison" "symbol" "Ljava/lang/String;") "java/lang/String" "value" "[B") Jvm.ClassFile.FieldType.byte).value a0 Z none Z [] = some true := (and_e (and_e (and_e (and_e (and_e (and_e (and_e (and_e (and_e (and_e (and_e (and_e (and_e (and_e (and_e (and_e (and_e (and_e (and_e (and_e (and_e (and_e (and_e (and_e (and_e (and_e (and_e (and_e (and_e (and_e (and_e (and_e (and_e (and_e (and_e (and_e (and_e (and_e H.2.1).2).2).2).2).2).2).2).2).2).2).2).2).2).2).2).2).2).2).2).2).2).2).2).2).2).2).2).2).2).2).2).2).2).2).2).2).2).1
theorem n38 (H : Hyp Z a0) : (Jvm.Cond.eq (Jvm.Term.length (Jvm.Term.field (Jvm.Term.field (Jvm.Term.static "com/example/annotable/annotable/PathQuery$Comparison" "GREATER_OR_EQUAL" "Lcom/example/annotable/annotable/PathQuery$Comparison;") "com/example/annotable/annotable/PathQuery$Comparison" "symbol" "Ljava/lang/String;") "java/lang/String" "value" "[B")) (Jvm.Term.int (2 : Int32))).value a0 Z none Z [] = some true := (and_e (and_e (and_e (and_e (and_e (and_e (and_e (and_e (and_e (and_e (and_e (and_e (and_e (and_e (and_e (and_e (and_e (and_e (and_e (and_e (and_e (and_e (and_e (and_e (and_e (and_e (and_e (and_e (and_e (and_e (and_e (and_e (and_e (and_e (and_e (and_e (and_e (and_e (and_e H.2.1).2).2).2).2).2).2).2).2).2).2).2).2).2).2).2).2).2).2).2).2).2).2).2).2).2).2).2).2).2).2).2).2).2).2).2).2).2).2).1
theorem n39 (H : Hyp Z a0) : (Jvm.Cond.eq (Jvm.Term.elem (Jvm.Term.field (Jvm.Term.field (Jvm.Term.static "com/example/annotable/annotable/PathQuery$Comparison" "NOT_EQUAL" "Lcom/example/annotable/annotable/PathQuery$Comparison;") "com/example/annotable/annotable/PathQuery$Comparison" "symbol" "Ljava/lang/String;") "java/lang/String" "value" "[B") (Jvm.Term.int (0 : Int32))) (Jvm.Term.int (33 : Int32))).value a0 Z none Z [] = some true := (and_e (and_e (and_e (and_e (and_e (and_e (and_e (and_e (and_e (and_e (and_e (and_e (and_e (and_e (and_e (and_e (and_e (and_e (and_e (and_e (and_e (and_e (and_e (and_e (and_e (and_e (and_e (and_e (and_e (and_e (and_e (and_e (and_e (and_e (and_e (and_e (and_e (and_e (and_e (and_e H.2.1).2).2).2).2).2).2).2).2).2).2).2).2).2).2).2).2).2).2).2).2).2).2).2).2).2).2).2).2).2).2).2).2).2).2).2).2).2).2).2).1
theorem n40 (H : Hyp Z a0) : (Jvm.Cond.eq (Jvm.Term.elem (Jvm.Term.field (Jvm.Term.field (Jvm.Term.static "com/example/annotable/annotable/PathQuery$Comparison" "LESS_OR_EQUAL" "Lcom/example/annotable/annotable/PathQuery$Comparison;") "com/example/annotable/annotable/PathQuery$Comparison" "symbol" "Ljava/lang/String;") "java/lang/String" "value" "[B") (Jvm.Term.int (0 : Int32))) (Jvm.Term.int (60 : Int32))).value a0 Z none Z [] = some true := (and_e (and_e (and_e (and_e (and_e (and_e (and_e (and_e (and_e (and_e (and_e (and_e (and_e (and_e (and_e (and_e (and_e (and_e (and_e (and_e (and_e (and_e (and_e (and_e (and_e (and_e (and_e (and_e (and_e (and_e (and_e (and_e (and_e (and_e (and_e (and_e (and_e (and_e (and_e (and_e (and_e H.2.1).2).2).2).2).2).2).2).2).2).2).2).2).2).2).2).2).2).2).2).2).2).2).2).2).2).2).2).2).2).2).2).2).2).2).2).2).2).2).2).2).1
theorem n41 (H : Hyp Z a0) : (Jvm.Cond.eq (Jvm.Term.elem (Jvm.Term.field (Jvm.Term.field (Jvm.Term.static "com/example/annotable/annotable/PathQuery$Comparison" "GREATER_OR_EQUAL" "Lcom/example/annotable/annotable/PathQuery$Comparison;") "com/example/annotable/annotable/PathQuery$Comparison" "symbol" "Ljava/lang/String;") "java/lang/String" "value" "[B") (Jvm.Term.int (0 : Int32))) (Jvm.Term.int (62 : Int32))).value a0 Z none Z [] = some true := (and_e (and_e (and_e (and_e (and_e (and_e (and_e (and_e (and_e (and_e (and_e (and_e (and_e (and_e (and_e (and_e (and_e (and_e (and_e (and_e (and_e (and_e (and_e (and_e (and_e (and_e (and_e (and_e (and_e (and_e (and_e (and_e (and_e (and_e (and_e (and_e (and_e (and_e (and_e (and_e (and_e (and_e H.2.1).2).2).2).2).2).2).2).2).2).2).2).2).2).2).2).2).2).2).2).2).2).2).2).2).2).2).2).2).2).2).2).2).2).2).2).2).2).2).2).2).2).1
theorem n42 (H : Hyp Z a0) : (Jvm.Cond.eq (Jvm.Term.elem (Jvm.Term.field (Jvm.Term.field (Jvm.Term.static "com/example/annotable/annotable/PathQuery$Comparison" "EQUAL" "Lcom/example/annotable/annotable/PathQuery$Comparison;") "com/example/annotable/annotable/PathQuery$Comparison" "symbol" "Ljava/lang/String;") "java/lang/String" "value" "[B") (Jvm.Term.int (0 : Int32))) (Jvm.Term.int (61 : Int32))).value a0 Z none Z [] = some true := (and_e (and_e (and_e (and_e (and_e (and_e (and_e (and_e (and_e (and_e (and_e (and_e (and_e (and_e (and_e (and_e (and_e (and_e (and_e (and_e (and_e (and_e (and_e (and_e (and_e (and_e (and_e (and_e (and_e (and_e (and_e (and_e (and_e (and_e (and_e (and_e (and_e (and_e (and_e (and_e (and_e (and_e (and_e H.2.1).2).2).2).2).2).2).2).2).2).2).2).2).2).2).2).2).2).2).2).2).2).2).2).2).2).2).2).2).2).2).2).2).2).2).2).2).2).2).2).2).2).2).1
theorem n43 (H : Hyp Z a0) : (Jvm.Cond.eq (Jvm.Term.elem (Jvm.Term.field (Jvm.Term.field (Jvm.Term.static "com/example/annotable/annotable/PathQuery$Comparison" "LESS" "Lcom/example/annotable/annotable/PathQuery$Comparison;") "com/example/annotable/annotable/PathQuery$Comparison" "symbol" "Ljava/lang/String;") "java/lang/String" "value" "[B") (Jvm.Term.int (0 : Int32))) (Jvm.Term.int (60 : Int32))).value a0 Z none Z [] = some true := (and_e (and_e (and_e (and_e (and_e (and_e (and_e (and_e (and_e (and_e (and_e (and_e (and_e (and_e (and_e (and_e (and_e (and_e (and_e (and_e (and_e (and_e (and_e (and_e (and_e (and_e (and_e (and_e (and_e (and_e (and_e (and_e (and_e (and_e (and_e (and_e (and_e (and_e (and_e (and_e (and_e (and_e (and_e (and_e H.2.1).2).2).2).2).2).2).2).2).2).2).2).2).2).2).2).2).2).2).2).2).2).2).2).2).2).2).2).2).2).2).2).2).2).2).2).2).2).2).2).2).2).2).2).1
theorem n44 (H : Hyp Z a0) : (Jvm.Cond.eq (Jvm.Term.elem (Jvm.Term.field (Jvm.Term.field (Jvm.Term.static "com/example/annotable/annotable/PathQuery$Comparison" "GREATER" "Lcom/example/annotable/annotable/PathQuery$Comparison;") "com/example/annotable/annotable/PathQuery$Comparison" "symbol" "Ljava/lang/String;") "java/lang/String" "value" "[B") (Jvm.Term.int (0 : Int32))) (Jvm.Term.int (62 : Int32))).value a0 Z none Z [] = some true := (and_e (and_e (and_e (and_e (and_e (and_e (and_e (and_e (and_e (and_e (and_e (and_e (and_e (and_e (and_e (and_e (and_e (and_e (and_e (and_e (and_e (and_e (and_e (and_e (and_e (and_e (and_e (and_e (and_e (and_e (and_e (and_e (and_e (and_e (and_e (and_e (and_e (and_e (and_e (and_e (and_e (and_e (and_e (and_e (and_e H.2.1).2).2).2).2).2).2).2).2).2).2).2).2).2).2).2).2).2).2).2).2).2).2).2).2).2).2).2).2).2).2).2).2).2).2).2).2).2).2).2).2).2).2).2).2).1
theorem n45 (H : Hyp Z a0) : (Jvm.Cond.eq (Jvm.Term.elem (Jvm.Term.field (Jvm.Term.field (Jvm.Term.static "com/example/annotable/annotable/PathQuery$Comparison" "NOT_EQUAL" "Lcom/example/annotable/annotable/PathQuery$Comparison;") "com/example/annotable/annotable/PathQuery$Comparison" "symbol" "Ljava/lang/String;") "java/lang/String" "value" "[B") (Jvm.Term.int (1 : Int32))) (Jvm.Term.int (61 : Int32))).value a0 Z none Z [] = some true := (and_e (and_e (and_e (and_e (and_e (and_e (and_e (and_e (and_e (and_e (and_e (and_e (and_e (and_e (and_e (and_e (and_e (and_e (and_e (and_e (and_e (and_e (and_e (and_e (and_e (and_e (and_e (and_e (and_e (and_e (and_e (and_e (and_e (and_e (and_e (and_e (and_e (and_e (and_e (and_e (and_e (and_e (and_e (and_e (and_e (and_e H.2.1).2).2).2).2).2).2).2).2).2).2).2).2).2).2).2).2).2).2).2).2).2).2).2).2).2).2).2).2).2).2).2).2).2).2).2).2).2).2).2).2).2).2).2).2).2).1
theorem n46 (H : Hyp Z a0) : (Jvm.Cond.eq (Jvm.Term.elem (Jvm.Term.field (Jvm.Term.field (Jvm.Term.static "com/example/annotable/annotable/PathQuery$Comparison" "GREATER_OR_EQUAL" "Lcom/example/annotable/annotable/PathQuery$Comparison;") "com/example/annotable/annotable/PathQuery$Comparison" "symbol" "Ljava/lang/String;") "java/lang/String" "value" "[B") (Jvm.Term.int (1 : Int32))) (Jvm.Term.int (61 : Int32))).value a0 Z none Z [] = some true := (and_e (and_e (and_e (and_e (and_e (and_e (and_e (and_e (and_e (and_e (and_e (and_e (and_e (and_e (and_e (and_e (and_e (and_e (and_e (and_e (and_e (and_e (and_e (and_e (and_e (and_e (and_e (and_e (and_e (and_e (and_e (and_e (and_e (and_e (and_e (and_e (and_e (and_e (and_e (and_e (and_e (and_e (and_e (and_e (and_e (and_e (and_e H.2.1).2).2).2).2).2).2).2).2).2).2).2).2).2).2).2).2).2).2).2).2).2).2).2).2).2).2).2).2).2).2).2).2).2).2).2).2).2).2).2).2).2).2).2).2).2).2).1
theorem n47 (H : Hyp Z a0) : (Jvm.Cond.eq (Jvm.Term.elem (Jvm.Term.field (Jvm.Term.field (Jvm.Term.static "com/example/annotable/annotable/PathQuery$Comparison" "LESS_OR_EQUAL" "Lcom/example/annotable/annotable/PathQuery$Comparison;") "com/example/annotable/annotable/PathQuery$Comparison" "symbol" "Ljava/lang/String;") "java/lang/String" "value" "[B") (Jvm.Term.int (1 : Int32))) (Jvm.Term.int (61 : Int32))).value a0 Z none Z [] = some true := (and_e (and_e (and_e (and_e (and_e (and_e (and_e (and_e (and_e (and_e (and_e (and_e (and_e (and_e (and_e (and_e (and_e (and_e (and_e (and_e (and_e (and_e (and_e (and_e (and_e (and_e (and_e (and_e (and_e (and_e (and_e (and_e (and_e (and_e (and_e (and_e (and_e (and_e (and_e (and_e (and_e (and_e (and_e (and_e (and_e (and_e (and_e H.2.1).2).2).2).2).2).2).2).2).2).2).2).2).2).2).2).2).2).2).2).2).2).2).2).2).2).2).2).2).2).2).2).2).2).2).2).2).2).2).2).2).2).2).2).2).2).2).2
theorem n49 (H : Hyp Z a0) : (Jvm.Cond.isInt (Jvm.Term.static "java/lang/String" "COMPACT_STRINGS" "Z")).value a0 Z none Z [] = some true := Cond.before_iff.mp (w99 H)
theorem n50 (H : Hyp Z a0) : (Jvm.Cond.not (Jvm.Cond.eq (Jvm.Term.static "java/lang/String" "COMPACT_STRINGS" "Z") (Jvm.Term.int (0 : Int32)))).value a0 Z none Z [] = some true := Cond.before_iff.mp (w100 H)
theorem heldM (H : Hyp Z a0) : Jvm.Lit.constHeld Z "java/lang/String" 7 := H.2.2.2.2
def ad0 (Z : State) (a0 : Array Value) : Addr := adOf "com/example/annotable/annotable/PathQuery$Comparison" "$VALUES" "[Lcom/example/annotable/annotable/PathQuery$Comparison;" Z a0
theorem ev0 (H : Hyp Z a0) : (Jvm.Term.static "com/example/annotable/annotable/PathQuery$Comparison" "$VALUES" "[Lcom/example/annotable/annotable/PathQuery$Comparison;").eval a0 Z none [] Z = some (.ref (ad0 Z a0)) := own_ad (arr_v (n0 H))
theorem s0 (H : Hyp Z a0) : Sta Z Z.heap "com/example/annotable/annotable/PathQuery$Comparison" "$VALUES" "[Lcom/example/annotable/annotable/PathQuery$Comparison;" (.ref (ad0 Z a0)) := Sta.start (ev0 H) (Or.inr ⟨(w34 H), (w40 H)⟩)
def ad1 (Z : State) (a0 : Array Value) : Addr := adOf "com/example/annotable/annotable/PathQuery$Comparison" "EQUAL" "Lcom/example/annotable/annotable/PathQuery$Comparison;" Z a0
theorem ev1 (H : Hyp Z a0) : (Jvm.Term.static "com/example/annotable/annotable/PathQuery$Comparison" "EQUAL" "Lcom/example/annotable/annotable/PathQuery$Comparison;").eval a0 Z none [] Z = some (.ref (ad1 Z a0)) := own_ad (exa_v (n3 H))
theorem s1 (H : Hyp Z a0) : Sta Z Z.heap "com/example/annotable/annotable/PathQuery$Comparison" "EQUAL" "Lcom/example/annotable/annotable/PathQuery$Comparison;" (.ref (ad1 Z a0)) := Sta.start (ev1 H) (Or.inr ⟨(w34 H), (w48 H)⟩)
def ad2 (Z : State) (a0 : Array Value) : Addr := adOf "com/example/annotable/annotable/PathQuery$Comparison" "NOT_EQUAL" "Lcom/example/annotable/annotable/PathQuery$Comparison;" Z a0
theorem ev2 (H : Hyp Z a0) : (Jvm.Term.static "com/example/annotable/annotable/PathQuery$Comparison" "NOT_EQUAL" "Lcom/example/annotable/annotable/PathQuery$Comparison;").eval a0 Z none [] Z = some (.ref (ad2 Z a0)) := own_ad (exa_v (n5 H))
theorem s2 (H : Hyp Z a0) : Sta Z Z.heap "com/example/annotable/annotable/PathQuery$Comparison" "NOT_EQUAL" "Lcom/example/annotable/annotable/PathQuery$Comparison;" (.ref (ad2 Z a0)) := Sta.start (ev2 H) (Or.inr ⟨(w34 H), (w49 H)⟩)
def ad3 (Z : State) (a0 : Array Value) : Addr := adOf "com/example/annotable/annotable/PathQuery$Comparison" "LESS" "Lcom/example/annotable/annotable/PathQuery$Comparison;" Z a0
theorem ev3 (H : Hyp Z a0) : (Jvm.Term.static "com/example/annotable/annotable/PathQuery$Comparison" "LESS" "Lcom/example/annotable/annotable/PathQuery$Comparison;").eval a0 Z none [] Z = some (.ref (ad3 Z a0)) := own_ad (exa_v (n7 H))
theorem s3 (H : Hyp Z a0) : Sta Z Z.heap "com/example/annotable/annotable/PathQuery$Comparison" "LESS" "Lcom/example/annotable/annotable/PathQuery$Comparison;" (.ref (ad3 Z a0)) := Sta.start (ev3 H) (Or.inr ⟨(w34 H), (w50 H)⟩)
def ad4 (Z : State) (a0 : Array Value) : Addr := adOf "com/example/annotable/annotable/PathQuery$Comparison" "LESS_OR_EQUAL" "Lcom/example/annotable/annotable/PathQuery$Comparison;" Z a0
theorem ev4 (H : Hyp Z a0) : (Jvm.Term.static "com/example/annotable/annotable/PathQuery$Comparison" "LESS_OR_EQUAL" "Lcom/example/annotable/annotable/PathQuery$Comparison;").eval a0 Z none [] Z = some (.ref (ad4 Z a0)) := own_ad (exa_v (n9 H))
theorem s4 (H : Hyp Z a0) : Sta Z Z.heap "com/example/annotable/annotable/PathQuery$Comparison" "LESS_OR_EQUAL" "Lcom/example/annotable/annotable/PathQuery$Comparison;" (.ref (ad4 Z a0)) := Sta.start (ev4 H) (Or.inr ⟨(w34 H), (w51 H)⟩)
def ad5 (Z : State) (a0 : Array Value) : Addr := adOf "com/example/annotable/annotable/PathQuery$Comparison" "GREATER" "Lcom/example/annotable/annotable/PathQuery$Comparison;" Z a0
theorem ev5 (H : Hyp Z a0) : (Jvm.Term.static "com/example/annotable/annotable/PathQuery$Comparison" "GREATER" "Lcom/example/annotable/annotable/PathQuery$Comparison;").eval a0 Z none [] Z = some (.ref (ad5 Z a0)) := own_ad (exa_v (n11 H))
theorem s5 (H : Hyp Z a0) : Sta Z Z.heap "com/example/annotable/annotable/PathQuery$Comparison" "GREATER" "Lcom/example/annotable/annotable/PathQuery$Comparison;" (.ref (ad5 Z a0)) := Sta.start (ev5 H) (Or.inr ⟨(w34 H), (w52 H)⟩)
def ad6 (Z : State) (a0 : Array Value) : Addr := adOf "com/example/annotable/annotable/PathQuery$Comparison" "GREATER_OR_EQUAL" "Lcom/example/annotable/annotable/PathQuery$Comparison;" Z a0
theorem ev6 (H : Hyp Z a0) : (Jvm.Term.static "com/example/annotable/annotable/PathQuery$Comparison" "GREATER_OR_EQUAL" "Lcom/example/annotable/annotable/PathQuery$Comparison;").eval a0 Z none [] Z = some (.ref (ad6 Z a0)) := own_ad (exa_v (n13 H))
theorem s6 (H : Hyp Z a0) : Sta Z Z.heap "com/example/annotable/annotable/PathQuery$Comparison" "GREATER_OR_EQUAL" "Lcom/example/annotable/annotable/PathQuery$Comparison;" (.ref (ad6 Z a0)) := Sta.start (ev6 H) (Or.inr ⟨(w34 H), (w53 H)⟩)
def ad7 (Z : State) (a0 : Array Value) : Addr := adT (Jvm.Term.field (Jvm.Term.static "com/example/annotable/annotable/PathQuery$Comparison" "EQUAL" "Lcom/example/annotable/annotable/PathQuery$Comparison;") "com/example/annotable/annotable/PathQuery$Comparison" "symbol" "Ljava/lang/String;") Z a0
theorem ev7 (H : Hyp Z a0) : (Jvm.Term.field (Jvm.Term.static "com/example/annotable/annotable/PathQuery$Comparison" "EQUAL" "Lcom/example/annotable/annotable/PathQuery$Comparison;") "com/example/annotable/annotable/PathQuery$Comparison" "symbol" "Ljava/lang/String;").eval a0 Z none [] Z = some (.ref (ad7 Z a0)) := own_adT (exa_v (n15 H))
theorem f1_symbol (H : Hyp Z a0) : Fld Z Z.heap (ad1 Z a0) "com/example/annotable/annotable/PathQuery$Comparison" "symbol" "Ljava/lang/String;" (.ref (ad7 Z a0)) := Fld.start ((fld_at (ev1 H)).symm.trans (ev7 H))
def ad8 (Z : State) (a0 : Array Value) : Addr := adT (Jvm.Term.field (Jvm.Term.static "com/example/annotable/annotable/PathQuery$Comparison" "NOT_EQUAL" "Lcom/example/annotable/annotable/PathQuery$Comparison;") "com/example/annotable/annotable/PathQuery$Comparison" "symbol" "Ljava/lang/String;") Z a0
theorem ev8 (H : Hyp Z a0) : (Jvm.Term.field (Jvm.Term.static "com/example/annotable/annotable/PathQuery$Comparison" "NOT_EQUAL" "Lcom/example/annotable/annotable/PathQuery$Comparison;") "com/example/annotable/annotable/PathQuery$Comparison" "symbol" "Ljava/lang/String;").eval a0 Z none [] Z = some (.ref (ad8 Z a0)) := own_adT (exa_v (n19 H))
theorem f2_symbol (H : Hyp Z a0) : Fld Z Z.heap (ad2 Z a0) "com/example/annotable/annotable/PathQuery$Comparison" "symbol" "Ljava/lang/String;" (.ref (ad8 Z a0)) := Fld.start ((fld_at (ev2 H)).symm.trans (ev8 H))
def ad9 (Z : State) (a0 : Array Value) : Addr := adT (Jvm.Term.field (Jvm.Term.static "com/example/annotable/annotable/PathQuery$Comparison" "LESS" "Lcom/example/annotable/annotable/PathQuery$Comparison;") "com/example/annotable/annotable/PathQuery$Comparison" "symbol" "Ljava/lang/String;") Z a0
theorem ev9 (H : Hyp Z a0) : (Jvm.Term.field (Jvm.Term.static "com/example/annotable/annotable/PathQuery$Comparison" "LESS" "Lcom/example/annotable/annotable/PathQuery$Comparison;") "com/example/annotable/annotable/PathQuery$Comparison" "symbol" "Ljava/lang/String;").eval a0 Z none [] Z = some (.ref (ad9 Z a0)) := own_adT (exa_v (n23 H))
theorem f3_symbol (H : Hyp Z a0) : Fld Z Z.heap (ad3 Z a0) "com/example/annotable/annotable/PathQuery$Comparison" "symbol" "Ljava/lang/String;" (.ref (ad9 Z a0)) := Fld.start ((fld_at (ev3 H)).symm.trans (ev9 H))
def ad10 (Z : State) (a0 : Array Value) : Addr := adT (Jvm.Term.field (Jvm.Term.static "com/example/annotable/annotable/PathQuery$Comparison" "LESS_OR_EQUAL" "Lcom/example/annotable/annotable/PathQuery$Comparison;") "com/example/annotable/annotable/PathQuery$Comparison" "symbol" "Ljava/lang/String;") Z a0
theorem ev10 (H : Hyp Z a0) : (Jvm.Term.field (Jvm.Term.static "com/example/annotable/annotable/PathQuery$Comparison" "LESS_OR_EQUAL" "Lcom/example/annotable/annotable/PathQuery$Comparison;") "com/example/annotable/annotable/PathQuery$Comparison" "symbol" "Ljava/lang/String;").eval a0 Z none [] Z = some (.ref (ad10 Z a0)) := own_adT (exa_v (n27 H))
theorem f4_symbol (H : Hyp Z a0) : Fld Z Z.heap (ad4 Z a0) "com/example/annotable/annotable/PathQuery$Comparison" "symbol" "Ljava/lang/String;" (.ref (ad10 Z a0)) := Fld.start ((fld_at (ev4 H)).symm.trans (ev10 H))
def ad11 (Z : State) (a0 : Array Value) : Addr := adT (Jvm.Term.field (Jvm.Term.static "com/example/annotable/annotable/PathQuery$Comparison" "GREATER" "Lcom/example/annotable/annotable/PathQuery$Comparison;") "com/example/annotable/annotable/PathQuery$Comparison" "symbol" "Ljava/lang/String;") Z a0
theorem ev11 (H : Hyp Z a0) : (Jvm.Term.field (Jvm.Term.static "com/example/annotable/annotable/PathQuery$Comparison" "GREATER" "Lcom/example/annotable/annotable/PathQuery$Comparison;") "com/example/annotable/annotable/PathQuery$Comparison" "symbol" "Ljava/lang/String;").eval a0 Z none [] Z = some (.ref (ad11 Z a0)) := own_adT (exa_v (n31 H))
theorem f5_symbol (H : Hyp Z a0) : Fld Z Z.heap (ad5 Z a0) "com/example/annotable/annotable/PathQuery$Comparison" "symbol" "Ljava/lang/String;" (.ref (ad11 Z a0)) := Fld.start ((fld_at (ev5 H)).symm.trans (ev11 H))
def ad12 (Z : State) (a0 : Array Value) : Addr := adT (Jvm.Term.field (Jvm.Term.static "com/example/annotable/annotable/PathQuery$Comparison" "GREATER_OR_EQUAL" "Lcom/example/annotable/annotable/PathQuery$Comparison;") "com/example/annotable/annotable/PathQuery$Comparison" "symbol" "Ljava/lang/String;") Z a0
theorem ev12 (H : Hyp Z a0) : (Jvm.Term.field (Jvm.Term.static "com/example/annotable/annotable/PathQuery$Comparison" "GREATER_OR_EQUAL" "Lcom/example/annotable/annotable/PathQuery$Comparison;") "com/example/annotable/annotable/PathQuery$Comparison" "symbol" "Ljava/lang/String;").eval a0 Z none [] Z = some (.ref (ad12 Z a0)) := own_adT (exa_v (n35 H))
theorem f6_symbol (H : Hyp Z a0) : Fld Z Z.heap (ad6 Z a0) "com/example/annotable/annotable/PathQuery$Comparison" "symbol" "Ljava/lang/String;" (.ref (ad12 Z a0)) := Fld.start ((fld_at (ev6 H)).symm.trans (ev12 H))
def ad13 (Z : State) (a0 : Array Value) : Addr := adT (Jvm.Term.field (Jvm.Term.field (Jvm.Term.static "com/example/annotable/annotable/PathQuery$Comparison" "EQUAL" "Lcom/example/annotable/annotable/PathQuery$Comparison;") "com/example/annotable/annotable/PathQuery$Comparison" "symbol" "Ljava/lang/String;") "java/lang/String" "value" "[B") Z a0
theorem ev13 (H : Hyp Z a0) : (Jvm.Term.field (Jvm.Term.field (Jvm.Term.static "com/example/annotable/annotable/PathQuery$Comparison" "EQUAL" "Lcom/example/annotable/annotable/PathQuery$Comparison;") "com/example/annotable/annotable/PathQuery$Comparison" "symbol" "Ljava/lang/String;") "java/lang/String" "value" "[B").eval a0 Z none [] Z = some (.ref (ad13 Z a0)) := own_adT (arr_v (n17 H))
theorem f7_value (H : Hyp Z a0) : Fld Z Z.heap (ad7 Z a0) "java/lang/String" "value" "[B" (.ref (ad13 Z a0)) := Fld.start ((fld_at (ev7 H)).symm.trans (ev13 H))
def ad14 (Z : State) (a0 : Array Value) : Addr := adT (Jvm.Term.field (Jvm.Term.field (Jvm.Term.static "com/example/annotable/annotable/PathQuery$Comparison" "NOT_EQUAL" "Lcom/example/annotable/annotable/PathQuery$Comparison;") "com/example/annotable/annotable/PathQuery$Comparison" "symbol" "Ljava/lang/String;") "java/lang/String" "value" "[B") Z a0
theorem ev14 (H : Hyp Z a0) : (Jvm.Term.field (Jvm.Term.field (Jvm.Term.static "com/example/annotable/annotable/PathQuery$Comparison" "NOT_EQUAL" "Lcom/example/annotable/annotable/PathQuery$Comparison;") "com/example/annotable/annotable/PathQuery$Comparison" "symbol" "Ljava/lang/String;") "java/lang/String" "value" "[B").eval a0 Z none [] Z = some (.ref (ad14 Z a0)) := own_adT (arr_v (n21 H))
theorem f8_value (H : Hyp Z a0) : Fld Z Z.heap (ad8 Z a0) "java/lang/String" "value" "[B" (.ref (ad14 Z a0)) := Fld.start ((fld_at (ev8 H)).symm.trans (ev14 H))
def ad15 (Z : State) (a0 : Array Value) : Addr := adT (Jvm.Term.field (Jvm.Term.field (Jvm.Term.static "com/example/annotable/annotable/PathQuery$Comparison" "LESS" "Lcom/example/annotable/annotable/PathQuery$Comparison;") "com/example/annotable/annotable/PathQuery$Comparison" "symbol" "Ljava/lang/String;") "java/lang/String" "value" "[B") Z a0
theorem ev15 (H : Hyp Z a0) : (Jvm.Term.field (Jvm.Term.field (Jvm.Term.static "com/example/annotable/annotable/PathQuery$Comparison" "LESS" "Lcom/example/annotable/annotable/PathQuery$Comparison;") "com/example/annotable/annotable/PathQuery$Comparison" "symbol" "Ljava/lang/String;") "java/lang/String" "value" "[B").eval a0 Z none [] Z = some (.ref (ad15 Z a0)) := own_adT (arr_v (n25 H))
theorem f9_value (H : Hyp Z a0) : Fld Z Z.heap (ad9 Z a0) "java/lang/String" "value" "[B" (.ref (ad15 Z a0)) := Fld.start ((fld_at (ev9 H)).symm.trans (ev15 H))
def ad16 (Z : State) (a0 : Array Value) : Addr := adT (Jvm.Term.field (Jvm.Term.field (Jvm.Term.static "com/example/annotable/annotable/PathQuery$Comparison" "LESS_OR_EQUAL" "Lcom/example/annotable/annotable/PathQuery$Comparison;") "com/example/annotable/annotable/PathQuery$Comparison" "symbol" "Ljava/lang/String;") "java/lang/String" "value" "[B") Z a0
theorem ev16 (H : Hyp Z a0) : (Jvm.Term.field (Jvm.Term.field (Jvm.Term.static "com/example/annotable/annotable/PathQuery$Comparison" "LESS_OR_EQUAL" "Lcom/example/annotable/annotable/PathQuery$Comparison;") "com/example/annotable/annotable/PathQuery$Comparison" "symbol" "Ljava/lang/String;") "java/lang/String" "value" "[B").eval a0 Z none [] Z = some (.ref (ad16 Z a0)) := own_adT (arr_v (n29 H))
theorem f10_value (H : Hyp Z a0) : Fld Z Z.heap (ad10 Z a0) "java/lang/String" "value" "[B" (.ref (ad16 Z a0)) := Fld.start ((fld_at (ev10 H)).symm.trans (ev16 H))
def ad17 (Z : State) (a0 : Array Value) : Addr := adT (Jvm.Term.field (Jvm.Term.field (Jvm.Term.static "com/example/annotable/annotable/PathQuery$Comparison" "GREATER" "Lcom/example/annotable/annotable/PathQuery$Comparison;") "com/example/annotable/annotable/PathQuery$Comparison" "symbol" "Ljava/lang/String;") "java/lang/String" "value" "[B") Z a0
theorem ev17 (H : Hyp Z a0) : (Jvm.Term.field (Jvm.Term.field (Jvm.Term.static "com/example/annotable/annotable/PathQuery$Comparison" "GREATER" "Lcom/example/annotable/annotable/PathQuery$Comparison;") "com/example/annotable/annotable/PathQuery$Comparison" "symbol" "Ljava/lang/String;") "java/lang/String" "value" "[B").eval a0 Z none [] Z = some (.ref (ad17 Z a0)) := own_adT (arr_v (n33 H))
theorem f11_value (H : Hyp Z a0) : Fld Z Z.heap (ad11 Z a0) "java/lang/String" "value" "[B" (.ref (ad17 Z a0)) := Fld.start ((fld_at (ev11 H)).symm.trans (ev17 H))
def ad18 (Z : State) (a0 : Array Value) : Addr := adT (Jvm.Term.field (Jvm.Term.field (Jvm.Term.static "com/example/annotable/annotable/PathQuery$Comparison" "GREATER_OR_EQUAL" "Lcom/example/annotable/annotable/PathQuery$Comparison;") "com/example/annotable/annotable/PathQuery$Comparison" "symbol" "Ljava/lang/String;") "java/lang/String" "value" "[B") Z a0
theorem ev18 (H : Hyp Z a0) : (Jvm.Term.field (Jvm.Term.field (Jvm.Term.static "com/example/annotable/annotable/PathQuery$Comparison" "GREATER_OR_EQUAL" "Lcom/example/annotable/annotable/PathQuery$Comparison;") "com/example/annotable/annotable/PathQuery$Comparison" "symbol" "Ljava/lang/String;") "java/lang/String" "value" "[B").eval a0 Z none [] Z = some (.ref (ad18 Z a0)) := own_adT (arr_v (n37 H))
theorem f12_value (H : Hyp Z a0) : Fld Z Z.heap (ad12 Z a0) "java/lang/String" "value" "[B" (.ref (ad18 Z a0)) := Fld.start ((fld_at (ev12 H)).symm.trans (ev18 H))
theorem x0 (H : Hyp Z a0) : Exa Z Z.heap (ad0 Z a0) "[Lcom/example/annotable/annotable/PathQuery$Comparison;" := Exa.start (ev0 H) (n1 H)
theorem x1 (H : Hyp Z a0) : Exa Z Z.heap (ad1 Z a0) "com/example/annotable/annotable/PathQuery$Comparison" := Exa.start (ev1 H) (n3 H)
theorem x2 (H : Hyp Z a0) : Exa Z Z.heap (ad2 Z a0) "com/example/annotable/annotable/PathQuery$Comparison" := Exa.start (ev2 H) (n5 H)
theorem x3 (H : Hyp Z a0) : Exa Z Z.heap (ad3 Z a0) "com/example/annotable/annotable/PathQuery$Comparison" := Exa.start (ev3 H) (n7 H)
theorem x4 (H : Hyp Z a0) : Exa Z Z.heap (ad4 Z a0) "com/example/annotable/annotable/PathQuery$Comparison" := Exa.start (ev4 H) (n9 H)
theorem x5 (H : Hyp Z a0) : Exa Z Z.heap (ad5 Z a0) "com/example/annotable/annotable/PathQuery$Comparison" := Exa.start (ev5 H) (n11 H)
theorem x6 (H : Hyp Z a0) : Exa Z Z.heap (ad6 Z a0) "com/example/annotable/annotable/PathQuery$Comparison" := Exa.start (ev6 H) (n13 H)
theorem x7 (H : Hyp Z a0) : Exa Z Z.heap (ad7 Z a0) "java/lang/String" := Exa.start (ev7 H) (n15 H)
theorem f7_coder (H : Hyp Z a0) : Fld Z Z.heap (ad7 Z a0) "java/lang/String" "coder" "B" (.int (0 : Int32)) := Fld.start ((fld_at (ev7 H)).symm.trans (own_eqint (n16 H)))
theorem x8 (H : Hyp Z a0) : Exa Z Z.heap (ad8 Z a0) "java/lang/String" := Exa.start (ev8 H) (n19 H)
theorem f8_coder (H : Hyp Z a0) : Fld Z Z.heap (ad8 Z a0) "java/lang/String" "coder" "B" (.int (0 : Int32)) := Fld.start ((fld_at (ev8 H)).symm.trans (own_eqint (n20 H)))
theorem x9 (H : Hyp Z a0) : Exa Z Z.heap (ad9 Z a0) "java/lang/String" := Exa.start (ev9 H) (n23 H)
theorem f9_coder (H : Hyp Z a0) : Fld Z Z.heap (ad9 Z a0) "java/lang/String" "coder" "B" (.int (0 : Int32)) := Fld.start ((fld_at (ev9 H)).symm.trans (own_eqint (n24 H)))
theorem x10 (H : Hyp Z a0) : Exa Z Z.heap (ad10 Z a0) "java/lang/String" := Exa.start (ev10 H) (n27 H)
theorem f10_coder (H : Hyp Z a0) : Fld Z Z.heap (ad10 Z a0) "java/lang/String" "coder" "B" (.int (0 : Int32)) := Fld.start ((fld_at (ev10 H)).symm.trans (own_eqint (n28 H)))
theorem x11 (H : Hyp Z a0) : Exa Z Z.heap (ad11 Z a0) "java/lang/String" := Exa.start (ev11 H) (n31 H)
theorem f11_coder (H : Hyp Z a0) : Fld Z Z.heap (ad11 Z a0) "java/lang/String" "coder" "B" (.int (0 : Int32)) := Fld.start ((fld_at (ev11 H)).symm.trans (own_eqint (n32 H)))
theorem x12 (H : Hyp Z a0) : Exa Z Z.heap (ad12 Z a0) "java/lang/String" := Exa.start (ev12 H) (n35 H)
theorem f12_coder (H : Hyp Z a0) : Fld Z Z.heap (ad12 Z a0) "java/lang/String" "coder" "B" (.int (0 : Int32)) := Fld.start ((fld_at (ev12 H)).symm.trans (own_eqint (n36 H)))
def iv0 (Z : State) (a0 : Array Value) : Int32 := match (Jvm.Term.static "java/lang/String" "COMPACT_STRINGS" "Z").eval a0 Z none [] Z with | some (.int x) => x | _ => 0
theorem ive0 (H : Hyp Z a0) : (Jvm.Term.static "java/lang/String" "COMPACT_STRINGS" "Z").eval a0 Z none [] Z = some (.int (iv0 Z a0)) := by obtain ⟨x, hx⟩ := is_v (n49 H); simp only [iv0, hx]
theorem ivs0 (H : Hyp Z a0) : Sta Z Z.heap "java/lang/String" "COMPACT_STRINGS" "Z" (.int (iv0 Z a0)) := Sta.start (ive0 H) (Or.inl (w98 H))
theorem ivn0 (H : Hyp Z a0) : ¬ (iv0 Z a0 = (0 : Int32)) := gotF (Cond.eq_ints (ive0 H) rfl) (not_v (n50 H))
theorem v0 (H : Hyp Z a0) : Arv Z Z.heap (ad0 Z a0) (kaOf Z (ad0 Z a0)) (.object "com/example/annotable/annotable/PathQuery$Comparison") (6 : Int32) [(.ref (ad1 Z a0)), (.ref (ad2 Z a0)), (.ref (ad3 Z a0)), (.ref (ad4 Z a0)), (.ref (ad5 Z a0)), (.ref (ad6 Z a0))] .null := own_arv H.2.2.1 (ev0 H) (n0 H) (n2 H) (by decide) rfl (fun cl hc => ⟨own_el (own_eqref (n4 H) (ev1 H)) (ev0 H) hc rfl, own_el (own_eqref (n6 H) (ev2 H)) (ev0 H) hc rfl, own_el (own_eqref (n8 H) (ev3 H)) (ev0 H) hc rfl, own_el (own_eqref (n10 H) (ev4 H)) (ev0 H) hc rfl, own_el (own_eqref (n12 H) (ev5 H)) (ev0 H) hc rfl, own_el (own_eqref (n14 H) (ev6 H)) (ev0 H) hc rfl, trivial⟩)
theorem v13 (H : Hyp Z a0) : Arv Z Z.heap (ad13 Z a0) (kaOf Z (ad13 Z a0)) .byte (1 : Int32) [(.int (61 : Int32))] (.int (0 : Int32)) := own_arv H.2.2.1 (ev13 H) (n17 H) (n18 H) (by decide) rfl (fun cl hc => ⟨own_el (own_eqint (n42 H)) (ev13 H) hc rfl, trivial⟩)
theorem v14 (H : Hyp Z a0) : Arv Z Z.heap (ad14 Z a0) (kaOf Z (ad14 Z a0)) .byte (2 : Int32) [(.int (33 : Int32)), (.int (61 : Int32))] (.int (0 : Int32)) := own_arv H.2.2.1 (ev14 H) (n21 H) (n22 H) (by decide) rfl (fun cl hc => ⟨own_el (own_eqint (n39 H)) (ev14 H) hc rfl, own_el (own_eqint (n45 H)) (ev14 H) hc rfl, trivial⟩)
theorem v15 (H : Hyp Z a0) : Arv Z Z.heap (ad15 Z a0) (kaOf Z (ad15 Z a0)) .byte (1 : Int32) [(.int (60 : Int32))] (.int (0 : Int32)) := own_arv H.2.2.1 (ev15 H) (n25 H) (n26 H) (by decide) rfl (fun cl hc => ⟨own_el (own_eqint (n43 H)) (ev15 H) hc rfl, trivial⟩)
theorem v16 (H : Hyp Z a0) : Arv Z Z.heap (ad16 Z a0) (kaOf Z (ad16 Z a0)) .byte (2 : Int32) [(.int (60 : Int32)), (.int (61 : Int32))] (.int (0 : Int32)) := own_arv H.2.2.1 (ev16 H) (n29 H) (n30 H) (by decide) rfl (fun cl hc => ⟨own_el (own_eqint (n40 H)) (ev16 H) hc rfl, own_el (own_eqint (n47 H)) (ev16 H) hc rfl, trivial⟩)
theorem v17 (H : Hyp Z a0) : Arv Z Z.heap (ad17 Z a0) (kaOf Z (ad17 Z a0)) .byte (1 : Int32) [(.int (62 : Int32))] (.int (0 : Int32)) := own_arv H.2.2.1 (ev17 H) (n33 H) (n34 H) (by decide) rfl (fun cl hc => ⟨own_el (own_eqint (n44 H)) (ev17 H) hc rfl, trivial⟩)
theorem v18 (H : Hyp Z a0) : Arv Z Z.heap (ad18 Z a0) (kaOf Z (ad18 Z a0)) .byte (2 : Int32) [(.int (62 : Int32)), (.int (61 : Int32))] (.int (0 : Int32)) := own_arv H.2.2.1 (ev18 H) (n37 H) (n38 H) (by decide) rfl (fun cl hc => ⟨own_el (own_eqint (n41 H)) (ev18 H) hc rfl, own_el (own_eqint (n46 H)) (ev18 H) hc rfl, trivial⟩)
theorem la0 (H : Hyp Z a0) : Lq Z a0 "java/lang/String" "java/lang/String" "coder" "B" .byte := ⟨(Or.inr (w24 H)), by decide⟩
theorem la1 (H : Hyp Z a0) : Lq Z a0 "java/lang/String" "java/lang/String" "value" "[B" (.array .byte) := ⟨(Or.inr (w23 H)), by decide⟩
end Facts
theorem d4_0 : decode jdk_42_method_149_code 0 = .ok (.aload_n 0, 1) := by decide +kernel
theorem d4_1 : decode jdk_42_method_149_code 1 = .ok (.invokespecial 1, 3) := by decide +kernel
theorem d4_4 : decode jdk_42_method_149_code 4 = .ok (.iload_n 3, 1) := by decide +kernel
theorem d4_5 : decode jdk_42_method_149_code 5 = .ok (.ifCond .ne 22, 3) := by decide +kernel
theorem d4_8 : decode jdk_42_method_149_code 8 = .ok (.aload_n 0, 1) := by decide +kernel
theorem d4_9 : decode jdk_42_method_149_code 9 = .ok (.ldc 7, 2) := by decide +kernel
theorem d4_11 : decode jdk_42_method_149_code 11 = .ok (.getfield 9, 3) := by decide +kernel
theorem d4_14 : decode jdk_42_method_149_code 14 = .ok (.putfield 9, 3) := by decide +kernel
theorem d4_17 : decode jdk_42_method_149_code 17 = .ok (.aload_n 0, 1) := by decide +kernel
theorem d4_18 : decode jdk_42_method_149_code 18 = .ok (.ldc 7, 2) := by decide +kernel
theorem d4_20 : decode jdk_42_method_149_code 20 = .ok (.getfield 15, 3) := by decide +kernel
theorem d4_23 : decode jdk_42_method_149_code 23 = .ok (.putfield 15, 3) := by decide +kernel
theorem d4_26 : decode jdk_42_method_149_code 26 = .ok (.return_, 1) := by decide +kernel
theorem d4_27 : decode jdk_42_method_149_code 27 = .ok (.getstatic 38, 3) := by decide +kernel
theorem d4_30 : decode jdk_42_method_149_code 30 = .ok (.ifCond .eq 28, 3) := by decide +kernel
theorem d4_33 : decode jdk_42_method_149_code 33 = .ok (.aload_n 1, 1) := by decide +kernel
theorem d4_34 : decode jdk_42_method_149_code 34 = .ok (.iload_n 2, 1) := by decide +kernel
theorem d4_35 : decode jdk_42_method_149_code 35 = .ok (.iload_n 3, 1) := by decide +kernel
theorem d4_36 : decode jdk_42_method_149_code 36 = .ok (.invokestatic 177, 3) := by decide +kernel
theorem d4_39 : decode jdk_42_method_149_code 39 = .ok (.astore 5, 2) := by decide +kernel
theorem d4_41 : decode jdk_42_method_149_code 41 = .ok (.aload_n 0, 1) := by decide +kernel
theorem d4_42 : decode jdk_42_method_149_code 42 = .ok (.aload 5, 2) := by decide +kernel
theorem d4_44 : decode jdk_42_method_149_code 44 = .ok (.iload_n 3, 1) := by decide +kernel
theorem d4_45 : decode jdk_42_method_149_code 45 = .ok (.invokestatic 47, 3) := by decide +kernel
theorem d4_48 : decode jdk_42_method_149_code 48 = .ok (.putfield 15, 3) := by decide +kernel
theorem d4_51 : decode jdk_42_method_149_code 51 = .ok (.aload_n 0, 1) := by decide +kernel
theorem d4_52 : decode jdk_42_method_149_code 52 = .ok (.aload 5, 2) := by decide +kernel
theorem d4_54 : decode jdk_42_method_149_code 54 = .ok (.putfield 9, 3) := by decide +kernel
theorem d4_57 : decode jdk_42_method_149_code 57 = .ok (.return_, 1) := by decide +kernel
theorem d3_0 : decode jdk_42_method_3_code 0 = .ok (.aload_n 0, 1) := by decide +kernel
theorem d3_1 : decode jdk_42_method_3_code 1 = .ok (.aload_n 1, 1) := by decide +kernel
theorem d3_2 : decode jdk_42_method_3_code 2 = .ok (.iconst 0, 1) := by decide +kernel
theorem d3_3 : decode jdk_42_method_3_code 3 = .ok (.aload_n 1, 1) := by decide +kernel
theorem d3_4 : decode jdk_42_method_3_code 4 = .ok (.arraylength, 1) := by decide +kernel
theorem d3_5 : decode jdk_42_method_3_code 5 = .ok (.aconst_null, 1) := by decide +kernel
theorem d3_6 : decode jdk_42_method_3_code 6 = .ok (.invokespecial 27, 3) := by decide +kernel
theorem d3_9 : decode jdk_42_method_3_code 9 = .ok (.return_, 1) := by decide +kernel
theorem d2_0 : decode method_4_code 0 = .ok (.iload_n 0, 1) := by decide +kernel
theorem d2_1 : decode method_4_code 1 = .ok (.ifCond .ne 14, 3) := by decide +kernel
theorem d2_4 : decode method_4_code 4 = .ok (.new 27, 3) := by decide +kernel
theorem d2_7 : decode method_4_code 7 = .ok (.dup, 1) := by decide +kernel
theorem d2_8 : decode method_4_code 8 = .ok (.iconst 0, 1) := by decide +kernel
theorem d2_9 : decode method_4_code 9 = .ok (.newarray .char, 2) := by decide +kernel
theorem d2_11 : decode method_4_code 11 = .ok (.invokespecial 29, 3) := by decide +kernel
theorem d2_14 : decode method_4_code 14 = .ok (.areturn, 1) := by decide +kernel
theorem d2_15 : decode method_4_code 15 = .ok (.iload_n 0, 1) := by decide +kernel
theorem d2_16 : decode method_4_code 16 = .ok (.iconst 1, 1) := by decide +kernel
theorem d2_17 : decode method_4_code 17 = .ok (.if_icmp .ne 8, 3) := by decide +kernel
theorem d2_20 : decode method_4_code 20 = .ok (.iload_n 1, 1) := by decide +kernel
theorem d2_21 : decode method_4_code 21 = .ok (.invokestatic 32, 3) := by decide +kernel
theorem d2_24 : decode method_4_code 24 = .ok (.areturn, 1) := by decide +kernel
theorem d2_25 : decode method_4_code 25 = .ok (.iload_n 0, 1) := by decide +kernel
theorem d2_26 : decode method_4_code 26 = .ok (.iconst 2, 1) := by decide +kernel
theorem d2_27 : decode method_4_code 27 = .ok (.if_icmp .ne 22, 3) := by decide +kernel
theorem d2_30 : decode method_4_code 30 = .ok (.new 27, 3) := by decide +kernel
theorem d2_33 : decode method_4_code 33 = .ok (.dup, 1) := by decide +kernel
theorem d2_34 : decode method_4_code 34 = .ok (.iconst 2, 1) := by decide +kernel
theorem d2_35 : decode method_4_code 35 = .ok (.newarray .char, 2) := by decide +kernel
theorem d2_37 : decode method_4_code 37 = .ok (.dup, 1) := by decide +kernel
theorem d2_38 : decode method_4_code 38 = .ok (.iconst 0, 1) := by decide +kernel
theorem d2_39 : decode method_4_code 39 = .ok (.iload_n 1, 1) := by decide +kernel
theorem d2_40 : decode method_4_code 40 = .ok (.castore, 1) := by decide +kernel
theorem d2_41 : decode method_4_code 41 = .ok (.dup, 1) := by decide +kernel
theorem d2_42 : decode method_4_code 42 = .ok (.iconst 1, 1) := by decide +kernel
theorem d2_43 : decode method_4_code 43 = .ok (.iload_n 2, 1) := by decide +kernel
theorem d2_44 : decode method_4_code 44 = .ok (.castore, 1) := by decide +kernel
theorem d2_45 : decode method_4_code 45 = .ok (.invokespecial 29, 3) := by decide +kernel
theorem d2_48 : decode method_4_code 48 = .ok (.areturn, 1) := by decide +kernel
theorem d2_49 : decode method_4_code 49 = .ok (.new 27, 3) := by decide +kernel
theorem d2_52 : decode method_4_code 52 = .ok (.dup, 1) := by decide +kernel
theorem d2_53 : decode method_4_code 53 = .ok (.iconst 3, 1) := by decide +kernel
theorem d2_54 : decode method_4_code 54 = .ok (.newarray .char, 2) := by decide +kernel
theorem d2_56 : decode method_4_code 56 = .ok (.dup, 1) := by decide +kernel
theorem d2_57 : decode method_4_code 57 = .ok (.iconst 0, 1) := by decide +kernel
theorem d2_58 : decode method_4_code 58 = .ok (.iload_n 1, 1) := by decide +kernel
theorem d2_59 : decode method_4_code 59 = .ok (.castore, 1) := by decide +kernel
theorem d2_60 : decode method_4_code 60 = .ok (.dup, 1) := by decide +kernel
theorem d2_61 : decode method_4_code 61 = .ok (.iconst 1, 1) := by decide +kernel
theorem d2_62 : decode method_4_code 62 = .ok (.iload_n 2, 1) := by decide +kernel
theorem d2_63 : decode method_4_code 63 = .ok (.castore, 1) := by decide +kernel
theorem d2_64 : decode method_4_code 64 = .ok (.dup, 1) := by decide +kernel
theorem d2_65 : decode method_4_code 65 = .ok (.iconst 2, 1) := by decide +kernel
theorem d2_66 : decode method_4_code 66 = .ok (.iload_n 3, 1) := by decide +kernel
theorem d2_67 : decode method_4_code 67 = .ok (.castore, 1) := by decide +kernel
theorem d2_68 : decode method_4_code 68 = .ok (.invokespecial 29, 3) := by decide +kernel
theorem d2_71 : decode method_4_code 71 = .ok (.areturn, 1) := by decide +kernel
theorem d1_0 : decode method_3_code 0 = .ok (.iload_n 0, 1) := by decide +kernel
theorem d1_1 : decode method_3_code 1 = .ok (.sipush 256, 3) := by decide +kernel
theorem d1_4 : decode method_3_code 4 = .ok (.iand, 1) := by decide +kernel
theorem d1_5 : decode method_3_code 5 = .ok (.ifCond .eq 33, 3) := by decide +kernel
theorem d1_8 : decode method_3_code 8 = .ok (.iload_n 0, 1) := by decide +kernel
theorem d1_9 : decode method_3_code 9 = .ok (.iconst 3, 1) := by decide +kernel
theorem d1_10 : decode method_3_code 10 = .ok (.iand, 1) := by decide +kernel
theorem d1_11 : decode method_3_code 11 = .ok (.istore_n 1, 1) := by decide +kernel
theorem d1_12 : decode method_3_code 12 = .ok (.iload_n 1, 1) := by decide +kernel
theorem d1_13 : decode method_3_code 13 = .ok (.ifCond .ne 6, 3) := by decide +kernel
theorem d1_16 : decode method_3_code 16 = .ok (.bipush 61, 2) := by decide +kernel
theorem d1_18 : decode method_3_code 18 = .ok (.ireturn, 1) := by decide +kernel
theorem d1_19 : decode method_3_code 19 = .ok (.iload_n 1, 1) := by decide +kernel
theorem d1_20 : decode method_3_code 20 = .ok (.iconst 1, 1) := by decide +kernel
theorem d1_21 : decode method_3_code 21 = .ok (.if_icmp .ne 6, 3) := by decide +kernel
theorem d1_24 : decode method_3_code 24 = .ok (.bipush 33, 2) := by decide +kernel
theorem d1_26 : decode method_3_code 26 = .ok (.ireturn, 1) := by decide +kernel
theorem d1_27 : decode method_3_code 27 = .ok (.iload_n 1, 1) := by decide +kernel
theorem d1_28 : decode method_3_code 28 = .ok (.iconst 2, 1) := by decide +kernel
theorem d1_29 : decode method_3_code 29 = .ok (.if_icmp .ne 6, 3) := by decide +kernel
theorem d1_32 : decode method_3_code 32 = .ok (.bipush 60, 2) := by decide +kernel
theorem d1_34 : decode method_3_code 34 = .ok (.ireturn, 1) := by decide +kernel
theorem d1_35 : decode method_3_code 35 = .ok (.bipush 62, 2) := by decide +kernel
theorem d1_37 : decode method_3_code 37 = .ok (.ireturn, 1) := by decide +kernel
theorem d1_38 : decode method_3_code 38 = .ok (.iload_n 0, 1) := by decide +kernel
theorem d1_39 : decode method_3_code 39 = .ok (.sipush 255, 3) := by decide +kernel
theorem d1_42 : decode method_3_code 42 = .ok (.iand, 1) := by decide +kernel
theorem d1_43 : decode method_3_code 43 = .ok (.i2c, 1) := by decide +kernel
theorem d1_44 : decode method_3_code 44 = .ok (.ireturn, 1) := by decide +kernel
theorem d6_0 : decode method_5_code 0 = .ok (.iload_n 0, 1) := by decide +kernel
theorem d6_1 : decode method_5_code 1 = .ok (.iconst 1, 1) := by decide +kernel
theorem d6_2 : decode method_5_code 2 = .ok (.if_icmp .ne 35, 3) := by decide +kernel
theorem d6_5 : decode method_5_code 5 = .ok (.iload_n 1, 1) := by decide +kernel
theorem d6_6 : decode method_5_code 6 = .ok (.bipush 61, 2) := by decide +kernel
theorem d6_8 : decode method_5_code 8 = .ok (.if_icmp .ne 7, 3) := by decide +kernel
theorem d6_11 : decode method_5_code 11 = .ok (.getstatic 36, 3) := by decide +kernel
theorem d6_14 : decode method_5_code 14 = .ok (.areturn, 1) := by decide +kernel
theorem d6_15 : decode method_5_code 15 = .ok (.iload_n 1, 1) := by decide +kernel
theorem d6_16 : decode method_5_code 16 = .ok (.bipush 60, 2) := by decide +kernel
theorem d6_18 : decode method_5_code 18 = .ok (.if_icmp .ne 7, 3) := by decide +kernel
theorem d6_21 : decode method_5_code 21 = .ok (.getstatic 40, 3) := by decide +kernel
theorem d6_24 : decode method_5_code 24 = .ok (.areturn, 1) := by decide +kernel
theorem d6_25 : decode method_5_code 25 = .ok (.iload_n 1, 1) := by decide +kernel
theorem d6_26 : decode method_5_code 26 = .ok (.bipush 62, 2) := by decide +kernel
theorem d6_28 : decode method_5_code 28 = .ok (.if_icmp .ne 7, 3) := by decide +kernel
theorem d6_31 : decode method_5_code 31 = .ok (.getstatic 43, 3) := by decide +kernel
theorem d6_34 : decode method_5_code 34 = .ok (.areturn, 1) := by decide +kernel
theorem d6_35 : decode method_5_code 35 = .ok (.aconst_null, 1) := by decide +kernel
theorem d6_36 : decode method_5_code 36 = .ok (.areturn, 1) := by decide +kernel
theorem d6_37 : decode method_5_code 37 = .ok (.iload_n 0, 1) := by decide +kernel
theorem d6_38 : decode method_5_code 38 = .ok (.iconst 2, 1) := by decide +kernel
theorem d6_39 : decode method_5_code 39 = .ok (.if_icmp .ne 41, 3) := by decide +kernel
theorem d6_42 : decode method_5_code 42 = .ok (.iload_n 2, 1) := by decide +kernel
theorem d6_43 : decode method_5_code 43 = .ok (.bipush 61, 2) := by decide +kernel
theorem d6_45 : decode method_5_code 45 = .ok (.if_icmp .ne 35, 3) := by decide +kernel
theorem d6_48 : decode method_5_code 48 = .ok (.iload_n 1, 1) := by decide +kernel
theorem d6_49 : decode method_5_code 49 = .ok (.bipush 33, 2) := by decide +kernel
theorem d6_51 : decode method_5_code 51 = .ok (.if_icmp .ne 7, 3) := by decide +kernel
theorem d6_54 : decode method_5_code 54 = .ok (.getstatic 46, 3) := by decide +kernel
theorem d6_57 : decode method_5_code 57 = .ok (.areturn, 1) := by decide +kernel
theorem d6_58 : decode method_5_code 58 = .ok (.iload_n 1, 1) := by decide +kernel
theorem d6_59 : decode method_5_code 59 = .ok (.bipush 60, 2) := by decide +kernel
theorem d6_61 : decode method_5_code 61 = .ok (.if_icmp .ne 7, 3) := by decide +kernel
theorem d6_64 : decode method_5_code 64 = .ok (.getstatic 49, 3) := by decide +kernel
theorem d6_67 : decode method_5_code 67 = .ok (.areturn, 1) := by decide +kernel
theorem d6_68 : decode method_5_code 68 = .ok (.iload_n 1, 1) := by decide +kernel
theorem d6_69 : decode method_5_code 69 = .ok (.bipush 62, 2) := by decide +kernel
theorem d6_71 : decode method_5_code 71 = .ok (.if_icmp .ne 7, 3) := by decide +kernel
theorem d6_74 : decode method_5_code 74 = .ok (.getstatic 52, 3) := by decide +kernel
theorem d6_77 : decode method_5_code 77 = .ok (.areturn, 1) := by decide +kernel
theorem d6_78 : decode method_5_code 78 = .ok (.aconst_null, 1) := by decide +kernel
theorem d6_79 : decode method_5_code 79 = .ok (.areturn, 1) := by decide +kernel
theorem d6_80 : decode method_5_code 80 = .ok (.aconst_null, 1) := by decide +kernel
theorem d6_81 : decode method_5_code 81 = .ok (.areturn, 1) := by decide +kernel
theorem d7_0 : decode prog_16_method_6_code 0 = .ok (.invokestatic 49, 3) := by decide +kernel
theorem d7_3 : decode prog_16_method_6_code 3 = .ok (.astore_n 1, 1) := by decide +kernel
theorem d7_4 : decode prog_16_method_6_code 4 = .ok (.aload_n 1, 1) := by decide +kernel
theorem d7_5 : decode prog_16_method_6_code 5 = .ok (.arraylength, 1) := by decide +kernel
theorem d7_6 : decode prog_16_method_6_code 6 = .ok (.istore_n 2, 1) := by decide +kernel
theorem d7_7 : decode prog_16_method_6_code 7 = .ok (.iconst 0, 1) := by decide +kernel
theorem d7_8 : decode prog_16_method_6_code 8 = .ok (.istore_n 3, 1) := by decide +kernel
theorem d7_9 : decode prog_16_method_6_code 9 = .ok (.iload_n 3, 1) := by decide +kernel
theorem d7_10 : decode prog_16_method_6_code 10 = .ok (.iload_n 2, 1) := by decide +kernel
theorem d7_11 : decode prog_16_method_6_code 11 = .ok (.if_icmp .ge 29, 3) := by decide +kernel
theorem d7_14 : decode prog_16_method_6_code 14 = .ok (.aload_n 1, 1) := by decide +kernel
theorem d7_15 : decode prog_16_method_6_code 15 = .ok (.iload_n 3, 1) := by decide +kernel
theorem d7_16 : decode prog_16_method_6_code 16 = .ok (.aaload, 1) := by decide +kernel
theorem d7_17 : decode prog_16_method_6_code 17 = .ok (.astore 4, 2) := by decide +kernel
theorem d7_19 : decode prog_16_method_6_code 19 = .ok (.aload 4, 2) := by decide +kernel
theorem d7_21 : decode prog_16_method_6_code 21 = .ok (.getfield 41, 3) := by decide +kernel
theorem d7_24 : decode prog_16_method_6_code 24 = .ok (.aload_n 0, 1) := by decide +kernel
theorem d7_25 : decode prog_16_method_6_code 25 = .ok (.invokevirtual 53, 3) := by decide +kernel
theorem d7_28 : decode prog_16_method_6_code 28 = .ok (.ifCond .eq 6, 3) := by decide +kernel
theorem d7_31 : decode prog_16_method_6_code 31 = .ok (.aload 4, 2) := by decide +kernel
theorem d7_33 : decode prog_16_method_6_code 33 = .ok (.areturn, 1) := by decide +kernel
theorem d7_34 : decode prog_16_method_6_code 34 = .ok (.iinc 3 1, 3) := by decide +kernel
theorem d7_37 : decode prog_16_method_6_code 37 = .ok (.goto (-28), 3) := by decide +kernel
theorem d7_40 : decode prog_16_method_6_code 40 = .ok (.aconst_null, 1) := by decide +kernel
theorem d7_41 : decode prog_16_method_6_code 41 = .ok (.areturn, 1) := by decide +kernel
theorem d8_0 : decode prog_16_method_1_code 0 = .ok (.getstatic 22, 3) := by decide +kernel
theorem d8_3 : decode prog_16_method_1_code 3 = .ok (.invokevirtual 26, 3) := by decide +kernel
theorem d8_6 : decode prog_16_method_1_code 6 = .ok (.checkcast 27, 3) := by decide +kernel
theorem d8_9 : decode prog_16_method_1_code 9 = .ok (.areturn, 1) := by decide +kernel
theorem d9_0 : decode jdk_42_method_66_code 0 = .ok (.aload_n 0, 1) := by decide +kernel
theorem d9_1 : decode jdk_42_method_66_code 1 = .ok (.aload_n 1, 1) := by decide +kernel
theorem d9_2 : decode jdk_42_method_66_code 2 = .ok (.if_acmp .ne 5, 3) := by decide +kernel
theorem d9_7 : decode jdk_42_method_66_code 7 = .ok (.aload_n 1, 1) := by decide +kernel
theorem d9_8 : decode jdk_42_method_66_code 8 = .ok (.instanceof 10, 3) := by decide +kernel
theorem d9_11 : decode jdk_42_method_66_code 11 = .ok (.ifCond .eq 43, 3) := by decide +kernel
theorem d9_14 : decode jdk_42_method_66_code 14 = .ok (.aload_n 1, 1) := by decide +kernel
theorem d9_15 : decode jdk_42_method_66_code 15 = .ok (.checkcast 10, 3) := by decide +kernel
theorem d9_18 : decode jdk_42_method_66_code 18 = .ok (.astore_n 2, 1) := by decide +kernel
theorem d9_19 : decode jdk_42_method_66_code 19 = .ok (.getstatic 38, 3) := by decide +kernel
theorem d9_22 : decode jdk_42_method_66_code 22 = .ok (.ifCond .eq 14, 3) := by decide +kernel
theorem d9_25 : decode jdk_42_method_66_code 25 = .ok (.aload_n 0, 1) := by decide +kernel
theorem d9_26 : decode jdk_42_method_66_code 26 = .ok (.getfield 15, 3) := by decide +kernel
theorem d9_29 : decode jdk_42_method_66_code 29 = .ok (.aload_n 2, 1) := by decide +kernel
theorem d9_30 : decode jdk_42_method_66_code 30 = .ok (.getfield 15, 3) := by decide +kernel
theorem d9_33 : decode jdk_42_method_66_code 33 = .ok (.if_icmp .ne 21, 3) := by decide +kernel
theorem d9_36 : decode jdk_42_method_66_code 36 = .ok (.aload_n 0, 1) := by decide +kernel
theorem d9_37 : decode jdk_42_method_66_code 37 = .ok (.getfield 9, 3) := by decide +kernel
theorem d9_40 : decode jdk_42_method_66_code 40 = .ok (.aload_n 2, 1) := by decide +kernel
theorem d9_41 : decode jdk_42_method_66_code 41 = .ok (.getfield 9, 3) := by decide +kernel
theorem d9_44 : decode jdk_42_method_66_code 44 = .ok (.invokestatic 541, 3) := by decide +kernel
theorem d9_47 : decode jdk_42_method_66_code 47 = .ok (.ifCond .eq 7, 3) := by decide +kernel
theorem d9_50 : decode jdk_42_method_66_code 50 = .ok (.iconst 1, 1) := by decide +kernel
theorem d9_51 : decode jdk_42_method_66_code 51 = .ok (.goto 4, 3) := by decide +kernel
theorem d9_54 : decode jdk_42_method_66_code 54 = .ok (.iconst 0, 1) := by decide +kernel
theorem d9_55 : decode jdk_42_method_66_code 55 = .ok (.ireturn, 1) := by decide +kernel
theorem d10_0 : decode jdk_43_method_13_code 0 = .ok (.aload_n 0, 1) := by decide +kernel
theorem d10_1 : decode jdk_43_method_13_code 1 = .ok (.arraylength, 1) := by decide +kernel
theorem d10_2 : decode jdk_43_method_13_code 2 = .ok (.aload_n 1, 1) := by decide +kernel
theorem d10_3 : decode jdk_43_method_13_code 3 = .ok (.arraylength, 1) := by decide +kernel
theorem d10_4 : decode jdk_43_method_13_code 4 = .ok (.if_icmp .ne 30, 3) := by decide +kernel
theorem d10_7 : decode jdk_43_method_13_code 7 = .ok (.iconst 0, 1) := by decide +kernel
theorem d10_8 : decode jdk_43_method_13_code 8 = .ok (.istore_n 2, 1) := by decide +kernel
theorem d10_9 : decode jdk_43_method_13_code 9 = .ok (.iload_n 2, 1) := by decide +kernel
theorem d10_10 : decode jdk_43_method_13_code 10 = .ok (.aload_n 0, 1) := by decide +kernel
theorem d10_11 : decode jdk_43_method_13_code 11 = .ok (.arraylength, 1) := by decide +kernel
theorem d10_12 : decode jdk_43_method_13_code 12 = .ok (.if_icmp .ge 20, 3) := by decide +kernel
theorem d10_15 : decode jdk_43_method_13_code 15 = .ok (.aload_n 0, 1) := by decide +kernel
theorem d10_16 : decode jdk_43_method_13_code 16 = .ok (.iload_n 2, 1) := by decide +kernel
theorem d10_17 : decode jdk_43_method_13_code 17 = .ok (.baload, 1) := by decide +kernel
theorem d10_18 : decode jdk_43_method_13_code 18 = .ok (.aload_n 1, 1) := by decide +kernel
theorem d10_19 : decode jdk_43_method_13_code 19 = .ok (.iload_n 2, 1) := by decide +kernel
theorem d10_20 : decode jdk_43_method_13_code 20 = .ok (.baload, 1) := by decide +kernel
theorem d10_21 : decode jdk_43_method_13_code 21 = .ok (.if_icmp .eq 5, 3) := by decide +kernel
theorem d10_24 : decode jdk_43_method_13_code 24 = .ok (.iconst 0, 1) := by decide +kernel
theorem d10_25 : decode jdk_43_method_13_code 25 = .ok (.ireturn, 1) := by decide +kernel
theorem d10_26 : decode jdk_43_method_13_code 26 = .ok (.iinc 2 1, 3) := by decide +kernel
theorem d10_29 : decode jdk_43_method_13_code 29 = .ok (.goto (-20), 3) := by decide +kernel
theorem d10_32 : decode jdk_43_method_13_code 32 = .ok (.iconst 1, 1) := by decide +kernel
theorem d10_33 : decode jdk_43_method_13_code 33 = .ok (.ireturn, 1) := by decide +kernel
theorem d10_34 : decode jdk_43_method_13_code 34 = .ok (.iconst 0, 1) := by decide +kernel
theorem d10_35 : decode jdk_43_method_13_code 35 = .ok (.ireturn, 1) := by decide +kernel
theorem d14_0 : decode jdk_42_method_139_code 0 = .ok (.getstatic 38, 3) := by decide +kernel
theorem d14_3 : decode jdk_42_method_139_code 3 = .ok (.ifCond .eq 23, 3) := by decide +kernel
theorem d14_6 : decode jdk_42_method_139_code 6 = .ok (.iload_n 0, 1) := by decide +kernel
theorem d14_7 : decode jdk_42_method_139_code 7 = .ok (.invokestatic 1015, 3) := by decide +kernel
theorem d14_10 : decode jdk_42_method_139_code 10 = .ok (.ifCond .eq 16, 3) := by decide +kernel
theorem d14_13 : decode jdk_42_method_139_code 13 = .ok (.new 10, 3) := by decide +kernel
theorem d14_16 : decode jdk_42_method_139_code 16 = .ok (.dup, 1) := by decide +kernel
theorem d14_17 : decode jdk_42_method_139_code 17 = .ok (.iload_n 0, 1) := by decide +kernel
theorem d14_18 : decode jdk_42_method_139_code 18 = .ok (.invokestatic 1018, 3) := by decide +kernel
theorem d14_21 : decode jdk_42_method_139_code 21 = .ok (.iconst 0, 1) := by decide +kernel
theorem d14_22 : decode jdk_42_method_139_code 22 = .ok (.invokespecial 209, 3) := by decide +kernel
theorem d14_25 : decode jdk_42_method_139_code 25 = .ok (.areturn, 1) := by decide +kernel
theorem d15_0 : decode jdk_43_method_3_code 0 = .ok (.iload_n 0, 1) := by decide +kernel
theorem d15_1 : decode jdk_43_method_3_code 1 = .ok (.sipush 255, 3) := by decide +kernel
theorem d15_4 : decode jdk_43_method_3_code 4 = .ok (.if_icmp .gt 7, 3) := by decide +kernel
theorem d15_7 : decode jdk_43_method_3_code 7 = .ok (.iconst 1, 1) := by decide +kernel
theorem d15_8 : decode jdk_43_method_3_code 8 = .ok (.goto 4, 3) := by decide +kernel
theorem d15_12 : decode jdk_43_method_3_code 12 = .ok (.ireturn, 1) := by decide +kernel
theorem d16_0 : decode jdk_43_method_46_code 0 = .ok (.iconst 1, 1) := by decide +kernel
theorem d16_1 : decode jdk_43_method_46_code 1 = .ok (.newarray .byte, 2) := by decide +kernel
theorem d16_3 : decode jdk_43_method_46_code 3 = .ok (.dup, 1) := by decide +kernel
theorem d16_4 : decode jdk_43_method_46_code 4 = .ok (.iconst 0, 1) := by decide +kernel
theorem d16_5 : decode jdk_43_method_46_code 5 = .ok (.iload_n 0, 1) := by decide +kernel
theorem d16_6 : decode jdk_43_method_46_code 6 = .ok (.i2b, 1) := by decide +kernel
theorem d16_7 : decode jdk_43_method_46_code 7 = .ok (.bastore, 1) := by decide +kernel
theorem d16_8 : decode jdk_43_method_46_code 8 = .ok (.areturn, 1) := by decide +kernel
theorem d17_0 : decode jdk_42_method_151_code 0 = .ok (.aload_n 0, 1) := by decide +kernel
theorem d17_1 : decode jdk_42_method_151_code 1 = .ok (.invokespecial 1, 3) := by decide +kernel
theorem d17_4 : decode jdk_42_method_151_code 4 = .ok (.aload_n 0, 1) := by decide +kernel
theorem d17_5 : decode jdk_42_method_151_code 5 = .ok (.aload_n 1, 1) := by decide +kernel
theorem d17_6 : decode jdk_42_method_151_code 6 = .ok (.putfield 9, 3) := by decide +kernel
theorem d17_9 : decode jdk_42_method_151_code 9 = .ok (.aload_n 0, 1) := by decide +kernel
theorem d17_10 : decode jdk_42_method_151_code 10 = .ok (.iload_n 2, 1) := by decide +kernel
theorem d17_11 : decode jdk_42_method_151_code 11 = .ok (.putfield 15, 3) := by decide +kernel
theorem d17_14 : decode jdk_42_method_151_code 14 = .ok (.return_, 1) := by decide +kernel
theorem d11_0 : decode jdk_52_method_16_code 0 = .ok (.iload_n 2, 1) := by decide +kernel
theorem d11_1 : decode jdk_52_method_16_code 1 = .ok (.newarray .byte, 2) := by decide +kernel
theorem d11_3 : decode jdk_52_method_16_code 3 = .ok (.astore_n 3, 1) := by decide +kernel
theorem d11_4 : decode jdk_52_method_16_code 4 = .ok (.aload_n 0, 1) := by decide +kernel
theorem d11_5 : decode jdk_52_method_16_code 5 = .ok (.iload_n 1, 1) := by decide +kernel
theorem d11_6 : decode jdk_52_method_16_code 6 = .ok (.aload_n 3, 1) := by decide +kernel
theorem d11_7 : decode jdk_52_method_16_code 7 = .ok (.iconst 0, 1) := by decide +kernel
theorem d11_8 : decode jdk_52_method_16_code 8 = .ok (.iload_n 2, 1) := by decide +kernel
theorem d11_9 : decode jdk_52_method_16_code 9 = .ok (.invokestatic 115, 3) := by decide +kernel
theorem d11_12 : decode jdk_52_method_16_code 12 = .ok (.istore 4, 2) := by decide +kernel
theorem d11_14 : decode jdk_52_method_16_code 14 = .ok (.iload 4, 2) := by decide +kernel
theorem d11_16 : decode jdk_52_method_16_code 16 = .ok (.iload_n 2, 1) := by decide +kernel
theorem d11_17 : decode jdk_52_method_16_code 17 = .ok (.if_icmp .eq 40, 3) := by decide +kernel
theorem d11_57 : decode jdk_52_method_16_code 57 = .ok (.aload_n 3, 1) := by decide +kernel
theorem d11_58 : decode jdk_52_method_16_code 58 = .ok (.areturn, 1) := by decide +kernel
theorem d12_0 : decode jdk_52_method_21_code 0 = .ok (.iconst 0, 1) := by decide +kernel
theorem d12_1 : decode jdk_52_method_21_code 1 = .ok (.istore 5, 2) := by decide +kernel
theorem d12_3 : decode jdk_52_method_21_code 3 = .ok (.iload 5, 2) := by decide +kernel
theorem d12_5 : decode jdk_52_method_21_code 5 = .ok (.iload 4, 2) := by decide +kernel
theorem d12_7 : decode jdk_52_method_21_code 7 = .ok (.if_icmp .ge 37, 3) := by decide +kernel
theorem d12_10 : decode jdk_52_method_21_code 10 = .ok (.aload_n 0, 1) := by decide +kernel
theorem d12_11 : decode jdk_52_method_21_code 11 = .ok (.iload_n 1, 1) := by decide +kernel
theorem d12_12 : decode jdk_52_method_21_code 12 = .ok (.caload, 1) := by decide +kernel
theorem d12_13 : decode jdk_52_method_21_code 13 = .ok (.istore 6, 2) := by decide +kernel
theorem d12_15 : decode jdk_52_method_21_code 15 = .ok (.iload 6, 2) := by decide +kernel
theorem d12_17 : decode jdk_52_method_21_code 17 = .ok (.sipush 255, 3) := by decide +kernel
theorem d12_20 : decode jdk_52_method_21_code 20 = .ok (.if_icmp .le 6, 3) := by decide +kernel
theorem d12_26 : decode jdk_52_method_21_code 26 = .ok (.aload_n 2, 1) := by decide +kernel
theorem d12_27 : decode jdk_52_method_21_code 27 = .ok (.iload_n 3, 1) := by decide +kernel
theorem d12_28 : decode jdk_52_method_21_code 28 = .ok (.iload 6, 2) := by decide +kernel
theorem d12_30 : decode jdk_52_method_21_code 30 = .ok (.i2b, 1) := by decide +kernel
theorem d12_31 : decode jdk_52_method_21_code 31 = .ok (.bastore, 1) := by decide +kernel
theorem d12_32 : decode jdk_52_method_21_code 32 = .ok (.iinc 1 1, 3) := by decide +kernel
theorem d12_35 : decode jdk_52_method_21_code 35 = .ok (.iinc 3 1, 3) := by decide +kernel
theorem d12_38 : decode jdk_52_method_21_code 38 = .ok (.iinc 5 1, 3) := by decide +kernel
theorem d12_41 : decode jdk_52_method_21_code 41 = .ok (.goto (-38), 3) := by decide +kernel
theorem d12_44 : decode jdk_52_method_21_code 44 = .ok (.iload 4, 2) := by decide +kernel
theorem d12_46 : decode jdk_52_method_21_code 46 = .ok (.ireturn, 1) := by decide +kernel
theorem d13_0 : decode jdk_52_method_15_code 0 = .ok (.iload_n 1, 1) := by decide +kernel
theorem d13_1 : decode jdk_52_method_15_code 1 = .ok (.aload_n 0, 1) := by decide +kernel
theorem d13_2 : decode jdk_52_method_15_code 2 = .ok (.arraylength, 1) := by decide +kernel
theorem d13_3 : decode jdk_52_method_15_code 3 = .ok (.isub, 1) := by decide +kernel
theorem d13_4 : decode jdk_52_method_15_code 4 = .ok (.bipush 31, 2) := by decide +kernel
theorem d13_6 : decode jdk_52_method_15_code 6 = .ok (.iushr, 1) := by decide +kernel
theorem d13_7 : decode jdk_52_method_15_code 7 = .ok (.i2b, 1) := by decide +kernel
theorem d13_8 : decode jdk_52_method_15_code 8 = .ok (.ireturn, 1) := by decide +kernel
theorem pd_0 : parseMethodDescriptor "([CIILjava/lang/Void;)V" = some ⟨[(.array .char), .int, .int, (.object "java/lang/Void")], none⟩ := by decide +kernel
theorem pd_1 : parseMethodDescriptor "([C)V" = some ⟨[(.array .char)], none⟩ := by decide +kernel
theorem pd_2 : parseMethodDescriptor "(I)C" = some ⟨[.int], some .char⟩ := by decide +kernel
theorem pd_3 : parseMethodDescriptor "(ICCC)Ljava/lang/String;" = some ⟨[.int, .char, .char, .char], some (.object "java/lang/String")⟩ := by decide +kernel
theorem pd_4 : parseMethodDescriptor "(ICC)Lcom/example/annotable/annotable/PathQuery$Comparison;" = some ⟨[.int, .char, .char], some (.object "com/example/annotable/annotable/PathQuery$Comparison")⟩ := by decide +kernel
theorem pd_5 : parseMethodDescriptor "()[Lcom/example/annotable/annotable/PathQuery$Comparison;" = some ⟨[], some (.array (.object "com/example/annotable/annotable/PathQuery$Comparison"))⟩ := by decide +kernel
theorem pd_6 : parseMethodDescriptor "([B[B)Z" = some ⟨[(.array .byte), (.array .byte)], some .boolean⟩ := by decide +kernel
theorem pd_7 : parseMethodDescriptor "(Ljava/lang/Object;)Z" = some ⟨[(.object "java/lang/Object")], some .boolean⟩ := by decide +kernel
theorem pd_8 : parseMethodDescriptor "(Ljava/lang/String;)Lcom/example/annotable/annotable/PathQuery$Comparison;" = some ⟨[(.object "java/lang/String")], some (.object "com/example/annotable/annotable/PathQuery$Comparison")⟩ := by decide +kernel
theorem pd_9 : parseMethodDescriptor "(C)Z" = some ⟨[.char], some .boolean⟩ := by decide +kernel
theorem pd_10 : parseMethodDescriptor "(C)[B" = some ⟨[.char], some (.array .byte)⟩ := by decide +kernel
theorem pd_11 : parseMethodDescriptor "([BB)V" = some ⟨[(.array .byte), .byte], none⟩ := by decide +kernel
theorem pd_12 : parseMethodDescriptor "(C)Ljava/lang/String;" = some ⟨[.char], some (.object "java/lang/String")⟩ := by decide +kernel
theorem pd_13 : parseMethodDescriptor "([CI[BII)I" = some ⟨[(.array .char), .int, (.array .byte), .int, .int], some .int⟩ := by decide +kernel
theorem pd_14 : parseMethodDescriptor "([CII)[B" = some ⟨[(.array .char), .int, .int], some (.array .byte)⟩ := by decide +kernel
theorem pd_15 : parseMethodDescriptor "([BI)B" = some ⟨[(.array .byte), .int], some .byte⟩ := by decide +kernel
theorem pn_com_example_annotable_annotable_ComparisonOfPinLaw : plainName "com/example/annotable/annotable/ComparisonOfPinLaw" = true := by first | (simp [plainName, overriddenIn]; done) | decide +kernel
theorem pn_com_example_annotable_annotable_PathQuery_Comparison : plainName "com/example/annotable/annotable/PathQuery$Comparison" = true := by first | (simp [plainName, overriddenIn]; done) | decide +kernel
theorem pn_java_lang_String : plainName "java/lang/String" = true := by first | (simp [plainName, overriddenIn]; done) | decide +kernel
theorem pn_java_lang_StringLatin1 : plainName "java/lang/StringLatin1" = true := by first | (simp [plainName, overriddenIn]; done) | decide +kernel
theorem pn_java_lang_StringUTF16 : plainName "java/lang/StringUTF16" = true := by first | (simp [plainName, overriddenIn]; done) | decide +kernel
theorem ef_0 (m : MethodId) (x0 : Addr) (x1 : Addr) : entryFrame m #[(.ref x0), (.ref x1), (.int (0 : Int32)), (.int (0 : Int32)), .null] 6 = mkF m 0 #[.val (.ref x0), .val (.ref x1), .val (.int (0 : Int32)), .val (.int (0 : Int32)), .val .null, .unset] [] := by first | (simp [entryFrame, mkF, argsToLocals, Value.category]; done) | rfl
theorem ef_1 (m : MethodId) (x0 : Addr) (x1 : Addr) : entryFrame m #[(.ref x0), (.ref x1)] 2 = mkF m 0 #[.val (.ref x0), .val (.ref x1)] [] := by first | (simp [entryFrame, mkF, argsToLocals, Value.category]; done) | rfl
theorem ef_2 (m : MethodId) (x0 : Int32) (x1 : Int32) (x2 : Int32) : entryFrame m #[(.int (0 : Int32)), (.int x0), (.int x1), (.int x2)] 4 = mkF m 0 #[.val (.int (0 : Int32)), .val (.int x0), .val (.int x1), .val (.int x2)] [] := by first | (simp [entryFrame, mkF, argsToLocals, Value.category]; done) | rfl
theorem ef_3 (m : MethodId) (x0 : Int32) : entryFrame m #[(.int x0)] 2 = mkF m 0 #[.val (.int x0), .unset] [] := by first | (simp [entryFrame, mkF, argsToLocals, Value.category]; done) | rfl
theorem ef_4 (m : MethodId) (x0 : Int32) (x1 : Int32) : entryFrame m #[(.int (0 : Int32)), (.int x0), (.int x1)] 3 = mkF m 0 #[.val (.int (0 : Int32)), .val (.int x0), .val (.int x1)] [] := by first | (simp [entryFrame, mkF, argsToLocals, Value.category]; done) | rfl
theorem ef_5 (m : MethodId)  : entryFrame m #[] 0 = mkF m 0 #[] [] := by first | (simp [entryFrame, mkF, argsToLocals, Value.category]; done) | rfl
theorem ef_6 (m : MethodId) (x0 : Addr) (x1 : Addr) : entryFrame m #[(.ref x0), (.ref x1)] 3 = mkF m 0 #[.val (.ref x0), .val (.ref x1), .unset] [] := by first | (simp [entryFrame, mkF, argsToLocals, Value.category]; done) | rfl
theorem ef_7 (m : MethodId) (x0 : Addr) : entryFrame m #[(.ref x0)] 5 = mkF m 0 #[.val (.ref x0), .unset, .unset, .unset, .unset] [] := by first | (simp [entryFrame, mkF, argsToLocals, Value.category]; done) | rfl
theorem ef_8 (m : MethodId) (x0 : Int32) : entryFrame m #[(.int x0)] 1 = mkF m 0 #[.val (.int x0)] [] := by first | (simp [entryFrame, mkF, argsToLocals, Value.category]; done) | rfl
theorem ef_9 (m : MethodId) (x0 : Addr) (x1 : Addr) : entryFrame m #[(.ref x0), (.ref x1), (.int (0 : Int32))] 3 = mkF m 0 #[.val (.ref x0), .val (.ref x1), .val (.int (0 : Int32))] [] := by first | (simp [entryFrame, mkF, argsToLocals, Value.category]; done) | rfl
theorem ef_10 (m : MethodId) (x0 : Int32) (x1 : Int32) (x2 : Int32) : entryFrame m #[(.int (1 : Int32)), (.int x0), (.int x1), (.int x2)] 4 = mkF m 0 #[.val (.int (1 : Int32)), .val (.int x0), .val (.int x1), .val (.int x2)] [] := by first | (simp [entryFrame, mkF, argsToLocals, Value.category]; done) | rfl
theorem ef_11 (m : MethodId) (x0 : Int32) (x1 : Int32) : entryFrame m #[(.int (1 : Int32)), (.int x0), (.int x1)] 3 = mkF m 0 #[.val (.int (1 : Int32)), .val (.int x0), .val (.int x1)] [] := by first | (simp [entryFrame, mkF, argsToLocals, Value.category]; done) | rfl
theorem ef_12 (m : MethodId) (x0 : Addr) (x1 : Addr) : entryFrame m #[(.ref x0), (.int (0 : Int32)), (.ref x1), (.int (0 : Int32)), (.int (2 : Int32))] 7 = mkF m 0 #[.val (.ref x0), .val (.int (0 : Int32)), .val (.ref x1), .val (.int (0 : Int32)), .val (.int (2 : Int32)), .unset, .unset] [] := by first | (simp [entryFrame, mkF, argsToLocals, Value.category]; done) | rfl
theorem ef_13 (m : MethodId) (x0 : Addr) : entryFrame m #[(.ref x0), (.int (0 : Int32)), (.int (2 : Int32))] 6 = mkF m 0 #[.val (.ref x0), .val (.int (0 : Int32)), .val (.int (2 : Int32)), .unset, .unset, .unset] [] := by first | (simp [entryFrame, mkF, argsToLocals, Value.category]; done) | rfl
theorem ef_14 (m : MethodId) (x0 : Addr) : entryFrame m #[(.ref x0), (.int (2 : Int32))] 2 = mkF m 0 #[.val (.ref x0), .val (.int (2 : Int32))] [] := by first | (simp [entryFrame, mkF, argsToLocals, Value.category]; done) | rfl
theorem ef_15 (m : MethodId) (x0 : Addr) (x1 : Addr) : entryFrame m #[(.ref x0), (.ref x1), (.int (0 : Int32)), (.int (2 : Int32)), .null] 6 = mkF m 0 #[.val (.ref x0), .val (.ref x1), .val (.int (0 : Int32)), .val (.int (2 : Int32)), .val .null, .unset] [] := by first | (simp [entryFrame, mkF, argsToLocals, Value.category]; done) | rfl
theorem ef_16 (m : MethodId) (x0 : Int32) (x1 : Int32) (x2 : Int32) : entryFrame m #[(.int (2 : Int32)), (.int x0), (.int x1), (.int x2)] 4 = mkF m 0 #[.val (.int (2 : Int32)), .val (.int x0), .val (.int x1), .val (.int x2)] [] := by first | (simp [entryFrame, mkF, argsToLocals, Value.category]; done) | rfl
theorem ef_17 (m : MethodId) (x0 : Int32) (x1 : Int32) : entryFrame m #[(.int (2 : Int32)), (.int x0), (.int x1)] 3 = mkF m 0 #[.val (.int (2 : Int32)), .val (.int x0), .val (.int x1)] [] := by first | (simp [entryFrame, mkF, argsToLocals, Value.category]; done) | rfl
theorem ef_18 (m : MethodId) (x0 : Addr) (x1 : Addr) : entryFrame m #[(.ref x0), (.int (0 : Int32)), (.ref x1), (.int (0 : Int32)), (.int (3 : Int32))] 7 = mkF m 0 #[.val (.ref x0), .val (.int (0 : Int32)), .val (.ref x1), .val (.int (0 : Int32)), .val (.int (3 : Int32)), .unset, .unset] [] := by first | (simp [entryFrame, mkF, argsToLocals, Value.category]; done) | rfl
theorem ef_19 (m : MethodId) (x0 : Addr) : entryFrame m #[(.ref x0), (.int (0 : Int32)), (.int (3 : Int32))] 6 = mkF m 0 #[.val (.ref x0), .val (.int (0 : Int32)), .val (.int (3 : Int32)), .unset, .unset, .unset] [] := by first | (simp [entryFrame, mkF, argsToLocals, Value.category]; done) | rfl
theorem ef_20 (m : MethodId) (x0 : Addr) : entryFrame m #[(.ref x0), (.int (3 : Int32))] 2 = mkF m 0 #[.val (.ref x0), .val (.int (3 : Int32))] [] := by first | (simp [entryFrame, mkF, argsToLocals, Value.category]; done) | rfl
theorem ef_21 (m : MethodId) (x0 : Addr) (x1 : Addr) : entryFrame m #[(.ref x0), (.ref x1), (.int (0 : Int32)), (.int (3 : Int32)), .null] 6 = mkF m 0 #[.val (.ref x0), .val (.ref x1), .val (.int (0 : Int32)), .val (.int (3 : Int32)), .val .null, .unset] [] := by first | (simp [entryFrame, mkF, argsToLocals, Value.category]; done) | rfl
theorem ef_22 (m : MethodId) (x0 : Int32) (x1 : Int32) (x2 : Int32) : entryFrame m #[(.int (3 : Int32)), (.int x0), (.int x1), (.int x2)] 4 = mkF m 0 #[.val (.int (3 : Int32)), .val (.int x0), .val (.int x1), .val (.int x2)] [] := by first | (simp [entryFrame, mkF, argsToLocals, Value.category]; done) | rfl
theorem ef_23 (m : MethodId) (x0 : Int32) (x1 : Int32) : entryFrame m #[(.int (3 : Int32)), (.int x0), (.int x1)] 3 = mkF m 0 #[.val (.int (3 : Int32)), .val (.int x0), .val (.int x1)] [] := by first | (simp [entryFrame, mkF, argsToLocals, Value.category]; done) | rfl
theorem ef_24 (m : MethodId) (x0 : Addr) : entryFrame m #[(.ref x0), .null] 3 = mkF m 0 #[.val (.ref x0), .val .null, .unset] [] := by first | (simp [entryFrame, mkF, argsToLocals, Value.category]; done) | rfl
theorem ef_25 (m : MethodId)  : entryFrame m #[.null] 5 = mkF m 0 #[.val .null, .unset, .unset, .unset, .unset] [] := by first | (simp [entryFrame, mkF, argsToLocals, Value.category]; done) | rfl
theorem ef_26 (m : MethodId) (x0 : Int32) (x1 : Int32) (x2 : Int32) (x3 : Int32) : entryFrame m #[(.int x0), (.int x1), (.int x2), (.int x3)] maxLocals = mkF m 0 #[.val (.int x0), .val (.int x1), .val (.int x2), .val (.int x3), .unset, .unset, .unset, .unset, .unset, .unset, .unset, .unset] [] := by first | (simp [entryFrame, mkF, argsToLocals, Value.category, maxLocals]; done) | rfl
theorem atomsS {Z : State} {a0 : Array Value} (H : Hyp Z a0) : ∀ a ∈ Bundle.stringAtoms, a.before a0 Z = true := fun a ha => by
  simp only [Bundle.stringAtoms, List.mem_cons, List.not_mem_nil, or_false] at ha
  rcases ha with rfl | rfl | rfl | rfl | rfl | rfl | rfl
  · exact (w9 H)
  · exact (w8 H)
  · exact (w22 H)
  · exact (w23 H)
  · exact (w24 H)
  · exact (w25 H)
  · exact (w26 H)
set_option maxRecDepth 65536 in
set_option maxHeartbeats 40000000 in
theorem rmI0 (l : Launch) {Z : State} {a0 : Array Value} (H : Hyp Z a0) (a1 a2 : Addr) (h0 : Heap) (Ol : Old Z Z.heap.size h0) (E1 : Exa Z h0 a1 "java/lang/String") (Fv : Fld Z h0 a1 "java/lang/String" "value" "[B" .null) (Fc : Fld Z h0 a1 "java/lang/String" "coder" "B" (.int 0)) (ge1 : Z.heap.size ≤ a1) :
    MtS l Z (⟨"java/lang/String", "<init>", "([CIILjava/lang/Void;)V"⟩ : MethodName) jdk_42_method_149_code 6 none [] ({ frames := 1, cells := 2, slots := 4, locals := 12 } : Room) #[(.ref a1), (.ref a2), (.int (0 : Int32)), (.int (0 : Int32)), .null] h0 (fun v h L => ∃ (b : Addr) (kB : ClassId), v = none ∧ Fr Z.heap.size L ∧ Keep h0 h [a1] ∧ Exa Z h a1 "java/lang/String" ∧ Fld Z h a1 "java/lang/String" "value" "[B" (.ref b) ∧ Fld Z h a1 "java/lang/String" "coder" "B" (.int 0) ∧ Arv Z h b kB .byte 0 [] (.int 0)) := by
  refine g_bodyS (plainFor_of_name pn_java_lang_String) ?_
  intro p e s m below meth c T0 K X0 e0 hs0 I0
  refine g_entry (ef_0 m a1 a2) ?_
  refine g_aloadN X0 K (q := 1) d4_0 rfl rfl rfl ?_
  refine g_init X0 K (q := 4) (W := 0) (w18 H) (w19 H) (w20 H) e0 rfl d4_1 (by decide) (Nat.le_of_eq rfl) (by decide) rfl ?_
  intro T1 X1 e1
  refine g_iloadN X1 K (q := 5) d4_4 rfl rfl ?_
  refine g_ifN X1 K (q := 8) d4_5 (by decide) rfl ?_
  refine g_aloadN X1 K (q := 9) d4_8 rfl rfl rfl ?_
  refine g_ldcT X1 K (q := 11) (n := 0) (text := "") (vs := []) (z := 0) (w21 H) (atomsS H) e1 (Fr.nil _) (fun b cl q => by rw [hs0]; exact Ol.2.2 b cl q) I0 (heldM H) (w100 H) ⟨by simp, rfl⟩ (by decide) rfl d4_9 (by decide) (by decide) (by decide) (by decide) rfl ?_
  intro T2 h2 vm2 k2 a b kB X2 K2 e2 E2 hS hk A2 C2 V2 B2 L2
  refine g_getf X2 K2 (q := 14) (w27 H) Via.refl e2 V2 d4_11 rfl ?_
  intro T3 X3 e3
  have neb : a1 ≠ b := by obtain ⟨cl, q1, -⟩ := id B2; exact ne_arr (E1.ext E2) (w8 H) q1
  refine g_putf X3 K2 (q := 17) (w27 H) Via.refl e3 (Fv.ext E2) (E1.ext E2) (Or.inr ⟨(w23 H), rfl, rfl⟩) (w8 H) (ty := .array .byte) (by decide) rfl rfl d4_14 rfl ?_
  intro T4 h4 X4 e4 W4 F4
  refine g_aloadN X4 K2 (q := 18) d4_17 rfl rfl rfl ?_
  refine g_ldcU X4 K2 (q := 20) (w21 H) L2 d4_18 rfl ?_
  have Fc4 : Fld Z h4 a1 "java/lang/String" "coder" "B" (.int 0) := (Fc.ext E2).other W4 (Or.inr (slot_ne (a0 := a0) (Or.inr (w24 H)) (Or.inr (w23 H)) (by decide) (t := .byte) (t' := (.array .byte)) (by decide) (by decide)))
  have C4 : Fld Z h4 a "java/lang/String" "coder" "B" (.int 0) := by
    by_cases qa : a = a1
    · rw [qa]; exact Fc4
    · exact C2.other W4 (Or.inl qa)
  refine g_getf X4 K2 (q := 23) (w28 H) Via.refl e4 C4 d4_20 rfl ?_
  intro T5 X5 e5
  refine g_putf X5 K2 (q := 26) (w28 H) Via.refl e5 Fc4 ((E1.ext E2).wr W4) (Or.inr ⟨(w24 H), rfl, rfl⟩) (w8 H) (ty := .byte) (by decide) rfl rfl d4_23 rfl ?_
  intro T6 h6 X6 e6 W6 F6
  have N6 : Fr Z.heap.size _ := Fr.snoc X6 (Fr.snoc X4 (Fr.nil _) ge1) ge1
  have K6 : Keep h0 h6 [a1] := (((Keep.refl h0 [a1]).ext E2).wr W4 (Or.inl (List.mem_cons_self ..))).wr W6 (Or.inl (List.mem_cons_self ..))
  refine g_retS X6 K2 hS (by rw [e6, W6.size, W4.size]; exact hk) d4_26 (by decide) (by decide) ?_
  rw [e6]
  exact ⟨b, kB, rfl, N6, K6, ((E1.ext E2).wr W4).wr W6, F4.other W6 (Or.inr (slot_ne (a0 := a0) (Or.inr (w23 H)) (Or.inr (w24 H)) (by decide) (t := (.array .byte)) (t' := .byte) (by decide) (by decide))), F6, (B2.other W4 neb.symm).other W6 neb.symm⟩
set_option maxRecDepth 65536 in
set_option maxHeartbeats 40000000 in
theorem rmC0 (l : Launch) {Z : State} {a0 : Array Value} (H : Hyp Z a0) (a1 a2 : Addr) (h0 : Heap) (Ol : Old Z Z.heap.size h0) (E1 : Exa Z h0 a1 "java/lang/String") (Fv : Fld Z h0 a1 "java/lang/String" "value" "[B" .null) (Fc : Fld Z h0 a1 "java/lang/String" "coder" "B" (.int 0)) (ge1 : Z.heap.size ≤ a1) (k2 : ClassId) (A2 : Arv Z h0 a2 k2 .char 0 [] (.int 0)) :
    MtS l Z (⟨"java/lang/String", "<init>", "([C)V"⟩ : MethodName) jdk_42_method_3_code 2 none [] ({ frames := 2, cells := 2, slots := 4, locals := 31 } : Room) #[(.ref a1), (.ref a2)] h0 (fun v h L => ∃ (b : Addr) (kB : ClassId), v = none ∧ Fr Z.heap.size L ∧ Keep h0 h [a1] ∧ Exa Z h a1 "java/lang/String" ∧ Fld Z h a1 "java/lang/String" "value" "[B" (.ref b) ∧ Fld Z h a1 "java/lang/String" "coder" "B" (.int 0) ∧ Arv Z h b kB .byte 0 [] (.int 0)) := by
  refine g_bodyS (plainFor_of_name pn_java_lang_String) ?_
  intro p e s m below meth c T0 K X0 e0 hs0 I0
  refine g_entry (ef_1 m a1 a2) ?_
  refine g_aloadN X0 K (q := 1) d3_0 rfl rfl rfl ?_
  refine g_aloadN X0 K (q := 2) d3_1 rfl rfl rfl ?_
  refine g_iconst X0 K (q := 3) (v := 0) d3_2 (by decide) rfl ?_
  refine g_aloadN X0 K (q := 4) d3_3 rfl rfl rfl ?_
  refine g_len X0 K (q := 5) e0 A2 d3_4 rfl ?_
  refine g_null X0 K (q := 6) d3_5 rfl ?_
  refine g_specialS X0 K (q := 9) (W := 0) (a := a1) I0 rfl (w14 H) (w15 H) (w9 H) (w17 H) (by decide) (rmI0 l H a1 a2 h0 Ol E1 Fv Fc ge1) e0 rfl (argsL := [.ref a2, .int 0, .int 0, .null]) (rest := []) (lenOf pd_0 rfl) rfl rfl (Nat.le_of_eq rfl) d3_6 (by decide) (by decide) (by decide) (by decide) rfl ?_
  rintro T1 vm1 v1 L1 X1 K1 hS ⟨b, kB, rfl, N1, Kc, q1, q2, q3, q4⟩
  show Go _ _ _ _ _ (mkF _ _ _ [])
  exact g_retS X1 K1 hS (Nat.le_refl _) d3_9 (by decide) (by decide) ⟨b, kB, rfl, (Fr.nil _).app N1, Kc, q1, q2, q3, q4⟩
set_option maxRecDepth 65536 in
set_option maxHeartbeats 40000000 in
theorem rmM0 (l : Launch) {Z : State} {a0 : Array Value} (H : Hyp Z a0) (c0 c1 c2 : Int32) (h0 : Heap) (Ol : Old Z Z.heap.size h0) :
    MtS l Z (⟨"com/example/annotable/annotable/ComparisonOfPinLaw", "make", "(ICCC)Ljava/lang/String;"⟩ : MethodName) method_4_code 4 (some (.object "java/lang/String")) [] ({ frames := 3, cells := 4, slots := 8, locals := 45 } : Room) #[(.int (0 : Int32)), (.int c0), (.int c1), (.int c2)] h0 (fun v h L => ∃ (a b : Addr) (kB : ClassId), v = some (.ref a) ∧ Fr Z.heap.size L ∧ Keep h0 h [] ∧ h0.size ≤ a ∧ Exa Z h a "java/lang/String" ∧ Fld Z h a "java/lang/String" "value" "[B" (.ref b) ∧ Fld Z h a "java/lang/String" "coder" "B" (.int 0) ∧ Arv Z h b kB .byte 0 [] (.int 0)) := by
  refine g_bodyS (plainFor_of_name pn_com_example_annotable_annotable_ComparisonOfPinLaw) ?_
  intro p e s m below meth c T0 K X0 e0 hs0 I0
  refine g_entry (ef_2 m c0 c1 c2) ?_
  refine g_iloadN X0 K (q := 1) d2_0 rfl rfl ?_
  refine g_ifN X0 K (q := 4) d2_1 (by decide) rfl ?_
  refine g_new X0 K (q := 7) (w7 H) (w8 H) (w9 H) e0 d2_4 (by decide) (by decide) rfl ?_
  intro T1 h1 b1 X1 e1 E1 z1 A1 D1
  have Fv : Fld Z h1 b1 "java/lang/String" "value" "[B" .null := D1 (Or.inr (w23 H)) (ty := .array .byte) (by decide)
  have Fc : Fld Z h1 b1 "java/lang/String" "coder" "B" (.int 0) := D1 (Or.inr (w24 H)) (ty := .byte) (by decide)
  have sz1 : h0.size ≤ b1 := Nat.le_of_eq z1
  have ge1 : Z.heap.size ≤ b1 := Nat.le_trans Ol.2.1 sz1
  have Ol1 := Ol.ext E1
  refine g_dup X1 K (q := 8) d2_7 rfl rfl ?_
  refine g_iconst X1 K (q := 9) (v := 0) d2_8 (by decide) rfl ?_
  refine g_newp X1 K (q := 11) (cap := 0) (ty := .char) (vs := []) (w10 H) rfl e1 d2_9 (by decide) (by decide) rfl (by decide) (by decide) (by decide) rfl ?_
  intro T2 h2 b2 kA2 X2 e2 E2 z2 A2
  refine g_specialS X2 K (q := 14) (W := 1) (a := b1) I0 rfl (w11 H) (w12 H) (w9 H) (w13 H) (by decide) (rmC0 l H b1 b2 h2 (Ol1.ext E2) (A1.ext E2) (Fv.ext E2) (Fc.ext E2) ge1 kA2 A2) e2 rfl (argsL := [.ref b2]) (rest := [.ref b1]) (lenOf pd_1 rfl) rfl rfl (Nat.le_of_eq rfl) d2_11 (by decide) (by decide) (by decide) (by decide) rfl ?_
  rintro T3 vm3 v3 L3 X3 K3 hS ⟨b, kB, rfl, N3, Kc, q1, q2, q3, q4⟩
  show Go _ _ _ _ _ (mkF _ _ _ [.ref b1])
  have Kp : Keep h0 T3.heap [] := (((Keep.refl h0 []).ext E1).ext E2).trans Kc (allS (P := fun x => x ∈ ([] : List Addr) ∨ h0.size ≤ x) (Or.inr sz1) all0)
  exact g_aretS X3 K3 hS (Nat.le_refl _) rfl rfl rfl d2_14 (by decide) (by decide) ⟨b1, b, kB, rfl, (Fr.nil _).app N3, Kp, sz1, q1, q2, q3, q4⟩
set_option maxRecDepth 65536 in
set_option maxHeartbeats 40000000 in
theorem rm1_4 (l : Launch) {Z : State} {a0 : Array Value} (H : Hyp Z a0) (p1 : Int32) (h0 : Heap) (Ol : Old Z Z.heap.size h0) :
    Mt l Z (⟨"com/example/annotable/annotable/ComparisonOfPinLaw", "ch", "(I)C"⟩ : MethodName) method_3_code 2 (some .char) [] ({ frames := 0, cells := 0, slots := 0, locals := 0 } : Room) #[(.int p1)] h0 (fun v h L => (v = some (.int (chF p1)) ∧ Fr Z.heap.size L ∧ h = h0)) := by
  refine g_body (plainFor_of_name pn_com_example_annotable_annotable_ComparisonOfPinLaw) ?_
  intro p e s m below meth c T0 K X0 e0
  refine g_entry (ef_3 m p1) ?_
  have Ol0 := Ol
  refine g_iloadN X0 K (q := 1) d1_0 rfl rfl ?_
  refine g_sipush X0 K (q := 4) (v := (256 : Int32)) d1_1 (by decide) rfl ?_
  refine g_iand X0 K (q := 5) d1_4 rfl rfl ?_
  by_cases hc1 : (p1 &&& (256 : Int32)) = (0 : Int32)
  · refine g_ifY X0 K (q := 38) d1_5 (teq hc1).1 (by decide) (by decide) ?_
    refine g_iloadN X0 K (q := 39) d1_38 rfl rfl ?_
    refine g_sipush X0 K (q := 42) (v := (255 : Int32)) d1_39 (by decide) rfl ?_
    refine g_iand X0 K (q := 43) d1_42 rfl rfl ?_
    refine g_i2c X0 K (q := 44) (z := (p1 &&& (255 : Int32))) d1_43 (i2c_mask p1) rfl ?_
    refine g_nret X0 K (by simp) (z' := (p1 &&& (255 : Int32))) (i2c_mask p1) d1_44 (by decide) (by decide) ?_
    exact ⟨own_some (by unfold chF; rw [if_pos hc1]), (Fr.nil _), e0⟩
  · refine g_ifN X0 K (q := 8) d1_5 (feq hc1).1 rfl ?_
    refine g_iloadN X0 K (q := 9) d1_8 rfl rfl ?_
    refine g_iconst X0 K (q := 10) (v := (3 : Int32)) d1_9 (by decide) rfl ?_
    refine g_iand X0 K (q := 11) d1_10 rfl rfl ?_
    refine g_istoreN X0 K (q := 12) (L' := #[.val (.int p1), .val (.int (p1 &&& (3 : Int32)))]) d1_11 rfl rfl ?_
    refine g_iloadN X0 K (q := 13) d1_12 rfl rfl ?_
    by_cases hc2 : (p1 &&& (3 : Int32)) = (0 : Int32)
    · refine g_ifN X0 K (q := 16) d1_13 (teq hc2).2 rfl ?_
      refine g_bipush X0 K (q := 18) (v := (61 : Int32)) d1_16 (by decide) rfl ?_
      refine g_nret X0 K (by simp) (z' := (61 : Int32)) (by decide) d1_18 (by decide) (by decide) ?_
      exact ⟨own_some (by unfold chF; rw [if_neg hc1, if_pos hc2]), (Fr.nil _), e0⟩
    · refine g_ifY X0 K (q := 19) d1_13 (feq hc2).2 (by decide) (by decide) ?_
      refine g_iloadN X0 K (q := 20) d1_19 rfl rfl ?_
      refine g_iconst X0 K (q := 21) (v := (1 : Int32)) d1_20 (by decide) rfl ?_
      by_cases hc3 : (p1 &&& (3 : Int32)) = (1 : Int32)
      · refine g_icN X0 K (q := 24) d1_21 (teq hc3).2 rfl ?_
        refine g_bipush X0 K (q := 26) (v := (33 : Int32)) d1_24 (by decide) rfl ?_
        refine g_nret X0 K (by simp) (z' := (33 : Int32)) (by decide) d1_26 (by decide) (by decide) ?_
        exact ⟨own_some (by unfold chF; rw [if_neg hc1, if_neg hc2, if_pos hc3]), (Fr.nil _), e0⟩
      · refine g_icY X0 K (q := 27) d1_21 (feq hc3).2 (by decide) (by decide) ?_
        refine g_iloadN X0 K (q := 28) d1_27 rfl rfl ?_
        refine g_iconst X0 K (q := 29) (v := (2 : Int32)) d1_28 (by decide) rfl ?_
        by_cases hc4 : (p1 &&& (3 : Int32)) = (2 : Int32)
        · refine g_icN X0 K (q := 32) d1_29 (teq hc4).2 rfl ?_
          refine g_bipush X0 K (q := 34) (v := (60 : Int32)) d1_32 (by decide) rfl ?_
          refine g_nret X0 K (by simp) (z' := (60 : Int32)) (by decide) d1_34 (by decide) (by decide) ?_
          exact ⟨own_some (by unfold chF; rw [if_neg hc1, if_neg hc2, if_neg hc3, if_pos hc4]), (Fr.nil _), e0⟩
        · refine g_icY X0 K (q := 35) d1_29 (feq hc4).2 (by decide) (by decide) ?_
          refine g_bipush X0 K (q := 37) (v := (62 : Int32)) d1_35 (by decide) rfl ?_
          refine g_nret X0 K (by simp) (z' := (62 : Int32)) (by decide) d1_37 (by decide) (by decide) ?_
          exact ⟨own_some (by unfold chF; rw [if_neg hc1, if_neg hc2, if_neg hc3, if_neg hc4]), (Fr.nil _), e0⟩
set_option maxRecDepth 65536 in
set_option maxHeartbeats 40000000 in
theorem rm6_5 (l : Launch) {Z : State} {a0 : Array Value} (H : Hyp Z a0) (p1 : Int32) (p2 : Int32) (h0 : Heap) (Ol : Old Z Z.heap.size h0) :
    Mt l Z (⟨"com/example/annotable/annotable/ComparisonOfPinLaw", "expected", "(ICC)Lcom/example/annotable/annotable/PathQuery$Comparison;"⟩ : MethodName) method_5_code 3 (some (.object "com/example/annotable/annotable/PathQuery$Comparison")) [] ({ frames := 0, cells := 0, slots := 0, locals := 0 } : Room) #[(.int (0 : Int32)), (.int p1), (.int p2)] h0 (fun v h L => (v = some .null ∧ Fr Z.heap.size L ∧ h = h0)) := by
  refine g_body (plainFor_of_name pn_com_example_annotable_annotable_ComparisonOfPinLaw) ?_
  intro p e s m below meth c T0 K X0 e0
  refine g_entry (ef_4 m p1 p2) ?_
  have Ol0 := Ol
  refine g_iloadN X0 K (q := 1) d6_0 rfl rfl ?_
  refine g_iconst X0 K (q := 2) (v := (1 : Int32)) d6_1 (by decide) rfl ?_
  refine g_icY X0 K (q := 37) d6_2 (by decide) (by decide) (by decide) ?_
  refine g_iloadN X0 K (q := 38) d6_37 rfl rfl ?_
  refine g_iconst X0 K (q := 39) (v := (2 : Int32)) d6_38 (by decide) rfl ?_
  refine g_icY X0 K (q := 80) d6_39 (by decide) (by decide) (by decide) ?_
  refine g_null X0 K (q := 81) d6_80 rfl ?_
  refine g_aret X0 K rfl rfl rfl d6_81 (by decide) (by decide) ?_
  exact ⟨rfl, (Fr.nil _), e0⟩
set_option maxRecDepth 65536 in
set_option maxHeartbeats 40000000 in
theorem rm8_6 (l : Launch) {Z : State} {a0 : Array Value} (H : Hyp Z a0) (h0 : Heap) (Ol : Old Z Z.heap.size h0) :
    Mt l Z (⟨"com/example/annotable/annotable/PathQuery$Comparison", "values", "()[Lcom/example/annotable/annotable/PathQuery$Comparison;"⟩ : MethodName) prog_16_method_1_code 0 (some (.array (.object "com/example/annotable/annotable/PathQuery$Comparison"))) [] ({ frames := 1, cells := 1, slots := 6, locals := 14 } : Room) #[] h0 (fun v h L => (∃ (b2 : Addr), v = some (.ref b2) ∧ Fr Z.heap.size L ∧ Keep h0 h [] ∧ h0.size ≤ b2 ∧ Arv Z h b2 (kaOf Z (ad0 Z a0)) (.object "com/example/annotable/annotable/PathQuery$Comparison") (6 : Int32) [(.ref (ad1 Z a0)), (.ref (ad2 Z a0)), (.ref (ad3 Z a0)), (.ref (ad4 Z a0)), (.ref (ad5 Z a0)), (.ref (ad6 Z a0))] .null ∧ Exa Z h b2 "[Lcom/example/annotable/annotable/PathQuery$Comparison;")) := by
  refine g_body (plainFor_of_name pn_com_example_annotable_annotable_PathQuery_Comparison) ?_
  intro p e s m below meth c T0 K X0 e0
  refine g_entry (ef_5 m) ?_
  have Ol0 := Ol
  refine g_gets X0 K (q := 3) (w39 H) e0 ((s0 H).ext Ol0.2) d8_0 rfl ?_
  intro T1 X1 e1
  refine g_clone X1 K (q := 6) (W := 0) (cap := 6) (w41 H) (w42 H) (w46 H) (w44 H) (w45 H) (w47 H) e1 ((v0 H).ext Ol0.2) ((x0 H).ext Ol0.2) rfl d8_3 (by decide) (Nat.le_of_eq rfl) (by decide) (by decide) (by decide) (by decide) rfl ?_
  intro T2 h2 b2 X2 e2 E2 z2 A2 B2
  obtain ⟨sz2, ge2, Ol2, Kp2⟩ := ivE Ol0 (Keep.refl h0 []) E2 z2
  have so1 := Sd.one b2
  refine g_cast X2 K (q := 9) (w55 H) e2 (Ins.self B2) d8_6 rfl ?_
  intro T3 X3 e3
  refine g_aret X3 K rfl rfl rfl d8_9 (by decide) (by decide) ?_
  have Kp : Keep h0 T3.heap [] := by rw [e3]; exact Kp2
  exact ⟨b2, rfl, (Fr.nil _), Kp, sz2, (by rw [e3]; exact A2), (by rw [e3]; exact B2)⟩
set_option maxRecDepth 65536 in
set_option maxHeartbeats 40000000 in
theorem rm10_7 (l : Launch) {Z : State} {a0 : Array Value} (H : Hyp Z a0) (a1 : Addr) (k1 : ClassId) (h0 : Heap) (Ol : Old Z Z.heap.size h0) (A_1 : Arv Z h0 a1 k1 .byte (0 : Int32) [] (.int (0 : Int32))) :
    Mt l Z (⟨"java/lang/StringLatin1", "equals", "([B[B)Z"⟩ : MethodName) jdk_43_method_13_code 3 (some .boolean) [] ({ frames := 0, cells := 0, slots := 0, locals := 0 } : Room) #[(.ref (ad13 Z a0)), (.ref a1)] h0 (fun v h L => (v = some (.int (0 : Int32)) ∧ Fr Z.heap.size L ∧ h = h0)) := by
  refine g_body (plainFor_of_name pn_java_lang_StringLatin1) ?_
  intro p e s m below meth c T0 K X0 e0
  refine g_entry (ef_6 m (ad13 Z a0) a1) ?_
  have Ol0 := Ol
  refine g_aloadN X0 K (q := 1) d10_0 rfl rfl rfl ?_
  refine g_len X0 K (q := 2) e0 ((v13 H).ext Ol0.2) d10_1 rfl ?_
  refine g_aloadN X0 K (q := 3) d10_2 rfl rfl rfl ?_
  refine g_len X0 K (q := 4) e0 A_1 d10_3 rfl ?_
  refine g_icY X0 K (q := 34) d10_4 (by decide) (by decide) (by decide) ?_
  refine g_iconst X0 K (q := 35) (v := (0 : Int32)) d10_34 (by decide) rfl ?_
  refine g_nret X0 K (by simp) (z' := (0 : Int32)) (by decide) d10_35 (by decide) (by decide) ?_
  exact ⟨rfl, (Fr.nil _), e0⟩
set_option maxRecDepth 65536 in
set_option maxHeartbeats 40000000 in
theorem rm9_8 (l : Launch) {Z : State} {a0 : Array Value} (H : Hyp Z a0) (a1 : Addr) (a2 : Addr) (k1 : ClassId) (h0 : Heap) (Ol : Old Z Z.heap.size h0) (ge_1 : Z.heap.size ≤ a1) (E_1 : Exa Z h0 a1 "java/lang/String") (F_1 : Fld Z h0 a1 "java/lang/String" "coder" "B" (.int (0 : Int32))) (F_2 : Fld Z h0 a1 "java/lang/String" "value" "[B" (.ref a2)) (A_1 : Arv Z h0 a2 k1 .byte (0 : Int32) [] (.int (0 : Int32))) :
    Mt l Z (⟨"java/lang/String", "equals", "(Ljava/lang/Object;)Z"⟩ : MethodName) jdk_42_method_66_code 3 (some .boolean) [] ({ frames := 1, cells := 0, slots := 0, locals := 14 } : Room) #[(.ref (ad7 Z a0)), (.ref a1)] h0 (fun v h L => (v = some (.int (0 : Int32)) ∧ Fr Z.heap.size L ∧ h = h0)) := by
  refine g_body (plainFor_of_name pn_java_lang_String) ?_
  intro p e s m below meth c T0 K X0 e0
  refine g_entry (ef_6 m (ad7 Z a0) a1) ?_
  have Ol0 := Ol
  refine g_aloadN X0 K (q := 1) d9_0 rfl rfl rfl ?_
  refine g_aloadN X0 K (q := 2) d9_1 rfl rfl rfl ?_
  have ne1 : (ad7 Z a0) ≠ a1 := (Nat.ne_of_lt (Nat.lt_of_lt_of_le (f7_value H).lt ge_1))
  refine g_ac X0 K (q := 7) (same := false) d9_2 rfl rfl (decide_eq_false fun q => ne1 (Value.ref.inj q)) (by decide) (by decide) ?_
  refine g_aloadN X0 K (q := 8) d9_7 rfl rfl rfl ?_
  refine g_instY X0 K (q := 11) (w64 H) e0 (Ins.self E_1) d9_8 rfl ?_
  intro T1 X1 e1
  refine g_ifN X1 K (q := 14) d9_11 (by decide) rfl ?_
  refine g_aloadN X1 K (q := 15) d9_14 rfl rfl rfl ?_
  refine g_cast X1 K (q := 18) (w64 H) e1 (Ins.self E_1) d9_15 rfl ?_
  intro T2 X2 e2
  refine g_astoreN X2 K (q := 19) (L' := #[.val (.ref (ad7 Z a0)), .val (.ref a1), .val (.ref a1)]) d9_18 rfl rfl rfl ?_
  refine g_gets X2 K (q := 22) (w65 H) e2 ((ivs0 H).ext Ol0.2) d9_19 rfl ?_
  intro T3 X3 e3
  refine g_ifN X3 K (q := 25) d9_22 (feq (ivn0 H)).1 rfl ?_
  refine g_aloadN X3 K (q := 26) d9_25 rfl rfl rfl ?_
  refine g_getf X3 K (q := 29) (w28 H) Via.refl e3 ((f7_coder H).ext Ol0.2) d9_26 rfl ?_
  intro T4 X4 e4
  refine g_aloadN X4 K (q := 30) d9_29 rfl rfl rfl ?_
  refine g_getf X4 K (q := 33) (w28 H) Via.refl e4 F_1 d9_30 rfl ?_
  intro T5 X5 e5
  refine g_icN X5 K (q := 36) d9_33 (by decide) rfl ?_
  refine g_aloadN X5 K (q := 37) d9_36 rfl rfl rfl ?_
  refine g_getf X5 K (q := 40) (w27 H) Via.refl e5 ((f7_value H).ext Ol0.2) d9_37 rfl ?_
  intro T6 X6 e6
  refine g_aloadN X6 K (q := 41) d9_40 rfl rfl rfl ?_
  refine g_getf X6 K (q := 44) (w27 H) Via.refl e6 F_2 d9_41 rfl ?_
  intro T7 X7 e7
  refine g_static X7 K (q := 47) (W := 0) (w66 H) (w67 H) (w68 H) (w69 H) (by decide) (rm10_7 l H a2 k1 h0 Ol0 A_1) e7 rfl (argsL := [(.ref (ad13 Z a0)), (.ref a2)]) (rest := []) (lenOf pd_6 rfl) rfl rfl (Nat.le_of_eq rfl) d9_44 (by decide) (by decide) (by decide) (by decide) rfl ?_
  rintro T8 v8 L8 X8 ⟨rfl, N8q, e8⟩
  have N8 := Fr.app (Fr.nil _) N8q
  show Go p e below _ T8 (mkF m 47 #[.val (.ref (ad7 Z a0)), .val (.ref a1), .val (.ref a1)] [(.int (0 : Int32))])
  refine g_ifY X8 K (q := 54) d9_47 (by decide) (by decide) (by decide) ?_
  refine g_iconst X8 K (q := 55) (v := (0 : Int32)) d9_54 (by decide) rfl ?_
  refine g_nret X8 K (by simp) (z' := (0 : Int32)) (by decide) d9_55 (by decide) (by decide) ?_
  exact ⟨rfl, N8, e8⟩
set_option maxRecDepth 65536 in
set_option maxHeartbeats 40000000 in
theorem rm10_9 (l : Launch) {Z : State} {a0 : Array Value} (H : Hyp Z a0) (a1 : Addr) (k1 : ClassId) (h0 : Heap) (Ol : Old Z Z.heap.size h0) (A_1 : Arv Z h0 a1 k1 .byte (0 : Int32) [] (.int (0 : Int32))) :
    Mt l Z (⟨"java/lang/StringLatin1", "equals", "([B[B)Z"⟩ : MethodName) jdk_43_method_13_code 3 (some .boolean) [] ({ frames := 0, cells := 0, slots := 0, locals := 0 } : Room) #[(.ref (ad14 Z a0)), (.ref a1)] h0 (fun v h L => (v = some (.int (0 : Int32)) ∧ Fr Z.heap.size L ∧ h = h0)) := by
  refine g_body (plainFor_of_name pn_java_lang_StringLatin1) ?_
  intro p e s m below meth c T0 K X0 e0
  refine g_entry (ef_6 m (ad14 Z a0) a1) ?_
  have Ol0 := Ol
  refine g_aloadN X0 K (q := 1) d10_0 rfl rfl rfl ?_
  refine g_len X0 K (q := 2) e0 ((v14 H).ext Ol0.2) d10_1 rfl ?_
  refine g_aloadN X0 K (q := 3) d10_2 rfl rfl rfl ?_
  refine g_len X0 K (q := 4) e0 A_1 d10_3 rfl ?_
  refine g_icY X0 K (q := 34) d10_4 (by decide) (by decide) (by decide) ?_
  refine g_iconst X0 K (q := 35) (v := (0 : Int32)) d10_34 (by decide) rfl ?_
  refine g_nret X0 K (by simp) (z' := (0 : Int32)) (by decide) d10_35 (by decide) (by decide) ?_
  exact ⟨rfl, (Fr.nil _), e0⟩
set_option maxRecDepth 65536 in
set_option maxHeartbeats 40000000 in
theorem rm9_10 (l : Launch) {Z : State} {a0 : Array Value} (H : Hyp Z a0) (a1 : Addr) (a2 : Addr) (k1 : ClassId) (h0 : Heap) (Ol : Old Z Z.heap.size h0) (ge_1 : Z.heap.size ≤ a1) (E_1 : Exa Z h0 a1 "java/lang/String") (F_1 : Fld Z h0 a1 "java/lang/String" "coder" "B" (.int (0 : Int32))) (F_2 : Fld Z h0 a1 "java/lang/String" "value" "[B" (.ref a2)) (A_1 : Arv Z h0 a2 k1 .byte (0 : Int32) [] (.int (0 : Int32))) :
    Mt l Z (⟨"java/lang/String", "equals", "(Ljava/lang/Object;)Z"⟩ : MethodName) jdk_42_method_66_code 3 (some .boolean) [] ({ frames := 1, cells := 0, slots := 0, locals := 14 } : Room) #[(.ref (ad8 Z a0)), (.ref a1)] h0 (fun v h L => (v = some (.int (0 : Int32)) ∧ Fr Z.heap.size L ∧ h = h0)) := by
  refine g_body (plainFor_of_name pn_java_lang_String) ?_
  intro p e s m below meth c T0 K X0 e0
  refine g_entry (ef_6 m (ad8 Z a0) a1) ?_
  have Ol0 := Ol
  refine g_aloadN X0 K (q := 1) d9_0 rfl rfl rfl ?_
  refine g_aloadN X0 K (q := 2) d9_1 rfl rfl rfl ?_
  have ne1 : (ad8 Z a0) ≠ a1 := (Nat.ne_of_lt (Nat.lt_of_lt_of_le (f8_value H).lt ge_1))
  refine g_ac X0 K (q := 7) (same := false) d9_2 rfl rfl (decide_eq_false fun q => ne1 (Value.ref.inj q)) (by decide) (by decide) ?_
  refine g_aloadN X0 K (q := 8) d9_7 rfl rfl rfl ?_
  refine g_instY X0 K (q := 11) (w64 H) e0 (Ins.self E_1) d9_8 rfl ?_
  intro T1 X1 e1
  refine g_ifN X1 K (q := 14) d9_11 (by decide) rfl ?_
  refine g_aloadN X1 K (q := 15) d9_14 rfl rfl rfl ?_
  refine g_cast X1 K (q := 18) (w64 H) e1 (Ins.self E_1) d9_15 rfl ?_
  intro T2 X2 e2
  refine g_astoreN X2 K (q := 19) (L' := #[.val (.ref (ad8 Z a0)), .val (.ref a1), .val (.ref a1)]) d9_18 rfl rfl rfl ?_
  refine g_gets X2 K (q := 22) (w65 H) e2 ((ivs0 H).ext Ol0.2) d9_19 rfl ?_
  intro T3 X3 e3
  refine g_ifN X3 K (q := 25) d9_22 (feq (ivn0 H)).1 rfl ?_
  refine g_aloadN X3 K (q := 26) d9_25 rfl rfl rfl ?_
  refine g_getf X3 K (q := 29) (w28 H) Via.refl e3 ((f8_coder H).ext Ol0.2) d9_26 rfl ?_
  intro T4 X4 e4
  refine g_aloadN X4 K (q := 30) d9_29 rfl rfl rfl ?_
  refine g_getf X4 K (q := 33) (w28 H) Via.refl e4 F_1 d9_30 rfl ?_
  intro T5 X5 e5
  refine g_icN X5 K (q := 36) d9_33 (by decide) rfl ?_
  refine g_aloadN X5 K (q := 37) d9_36 rfl rfl rfl ?_
  refine g_getf X5 K (q := 40) (w27 H) Via.refl e5 ((f8_value H).ext Ol0.2) d9_37 rfl ?_
  intro T6 X6 e6
  refine g_aloadN X6 K (q := 41) d9_40 rfl rfl rfl ?_
  refine g_getf X6 K (q := 44) (w27 H) Via.refl e6 F_2 d9_41 rfl ?_
  intro T7 X7 e7
  refine g_static X7 K (q := 47) (W := 0) (w66 H) (w67 H) (w68 H) (w69 H) (by decide) (rm10_9 l H a2 k1 h0 Ol0 A_1) e7 rfl (argsL := [(.ref (ad14 Z a0)), (.ref a2)]) (rest := []) (lenOf pd_6 rfl) rfl rfl (Nat.le_of_eq rfl) d9_44 (by decide) (by decide) (by decide) (by decide) rfl ?_
  rintro T8 v8 L8 X8 ⟨rfl, N8q, e8⟩
  have N8 := Fr.app (Fr.nil _) N8q
  show Go p e below _ T8 (mkF m 47 #[.val (.ref (ad8 Z a0)), .val (.ref a1), .val (.ref a1)] [(.int (0 : Int32))])
  refine g_ifY X8 K (q := 54) d9_47 (by decide) (by decide) (by decide) ?_
  refine g_iconst X8 K (q := 55) (v := (0 : Int32)) d9_54 (by decide) rfl ?_
  refine g_nret X8 K (by simp) (z' := (0 : Int32)) (by decide) d9_55 (by decide) (by decide) ?_
  exact ⟨rfl, N8, e8⟩
set_option maxRecDepth 65536 in
set_option maxHeartbeats 40000000 in
theorem rm10_11 (l : Launch) {Z : State} {a0 : Array Value} (H : Hyp Z a0) (a1 : Addr) (k1 : ClassId) (h0 : Heap) (Ol : Old Z Z.heap.size h0) (A_1 : Arv Z h0 a1 k1 .byte (0 : Int32) [] (.int (0 : Int32))) :
    Mt l Z (⟨"java/lang/StringLatin1", "equals", "([B[B)Z"⟩ : MethodName) jdk_43_method_13_code 3 (some .boolean) [] ({ frames := 0, cells := 0, slots := 0, locals := 0 } : Room) #[(.ref (ad15 Z a0)), (.ref a1)] h0 (fun v h L => (v = some (.int (0 : Int32)) ∧ Fr Z.heap.size L ∧ h = h0)) := by
  refine g_body (plainFor_of_name pn_java_lang_StringLatin1) ?_
  intro p e s m below meth c T0 K X0 e0
  refine g_entry (ef_6 m (ad15 Z a0) a1) ?_
  have Ol0 := Ol
  refine g_aloadN X0 K (q := 1) d10_0 rfl rfl rfl ?_
  refine g_len X0 K (q := 2) e0 ((v15 H).ext Ol0.2) d10_1 rfl ?_
  refine g_aloadN X0 K (q := 3) d10_2 rfl rfl rfl ?_
  refine g_len X0 K (q := 4) e0 A_1 d10_3 rfl ?_
  refine g_icY X0 K (q := 34) d10_4 (by decide) (by decide) (by decide) ?_
  refine g_iconst X0 K (q := 35) (v := (0 : Int32)) d10_34 (by decide) rfl ?_
  refine g_nret X0 K (by simp) (z' := (0 : Int32)) (by decide) d10_35 (by decide) (by decide) ?_
  exact ⟨rfl, (Fr.nil _), e0⟩
set_option maxRecDepth 65536 in
set_option maxHeartbeats 40000000 in
theorem rm9_12 (l : Launch) {Z : State} {a0 : Array Value} (H : Hyp Z a0) (a1 : Addr) (a2 : Addr) (k1 : ClassId) (h0 : Heap) (Ol : Old Z Z.heap.size h0) (ge_1 : Z.heap.size ≤ a1) (E_1 : Exa Z h0 a1 "java/lang/String") (F_1 : Fld Z h0 a1 "java/lang/String" "coder" "B" (.int (0 : Int32))) (F_2 : Fld Z h0 a1 "java/lang/String" "value" "[B" (.ref a2)) (A_1 : Arv Z h0 a2 k1 .byte (0 : Int32) [] (.int (0 : Int32))) :
    Mt l Z (⟨"java/lang/String", "equals", "(Ljava/lang/Object;)Z"⟩ : MethodName) jdk_42_method_66_code 3 (some .boolean) [] ({ frames := 1, cells := 0, slots := 0, locals := 14 } : Room) #[(.ref (ad9 Z a0)), (.ref a1)] h0 (fun v h L => (v = some (.int (0 : Int32)) ∧ Fr Z.heap.size L ∧ h = h0)) := by
  refine g_body (plainFor_of_name pn_java_lang_String) ?_
  intro p e s m below meth c T0 K X0 e0
  refine g_entry (ef_6 m (ad9 Z a0) a1) ?_
  have Ol0 := Ol
  refine g_aloadN X0 K (q := 1) d9_0 rfl rfl rfl ?_
  refine g_aloadN X0 K (q := 2) d9_1 rfl rfl rfl ?_
  have ne1 : (ad9 Z a0) ≠ a1 := (Nat.ne_of_lt (Nat.lt_of_lt_of_le (f9_value H).lt ge_1))
  refine g_ac X0 K (q := 7) (same := false) d9_2 rfl rfl (decide_eq_false fun q => ne1 (Value.ref.inj q)) (by decide) (by decide) ?_
  refine g_aloadN X0 K (q := 8) d9_7 rfl rfl rfl ?_
  refine g_instY X0 K (q := 11) (w64 H) e0 (Ins.self E_1) d9_8 rfl ?_
  intro T1 X1 e1
  refine g_ifN X1 K (q := 14) d9_11 (by decide) rfl ?_
  refine g_aloadN X1 K (q := 15) d9_14 rfl rfl rfl ?_
  refine g_cast X1 K (q := 18) (w64 H) e1 (Ins.self E_1) d9_15 rfl ?_
  intro T2 X2 e2
  refine g_astoreN X2 K (q := 19) (L' := #[.val (.ref (ad9 Z a0)), .val (.ref a1), .val (.ref a1)]) d9_18 rfl rfl rfl ?_
  refine g_gets X2 K (q := 22) (w65 H) e2 ((ivs0 H).ext Ol0.2) d9_19 rfl ?_
  intro T3 X3 e3
  refine g_ifN X3 K (q := 25) d9_22 (feq (ivn0 H)).1 rfl ?_
  refine g_aloadN X3 K (q := 26) d9_25 rfl rfl rfl ?_
  refine g_getf X3 K (q := 29) (w28 H) Via.refl e3 ((f9_coder H).ext Ol0.2) d9_26 rfl ?_
  intro T4 X4 e4
  refine g_aloadN X4 K (q := 30) d9_29 rfl rfl rfl ?_
  refine g_getf X4 K (q := 33) (w28 H) Via.refl e4 F_1 d9_30 rfl ?_
  intro T5 X5 e5
  refine g_icN X5 K (q := 36) d9_33 (by decide) rfl ?_
  refine g_aloadN X5 K (q := 37) d9_36 rfl rfl rfl ?_
  refine g_getf X5 K (q := 40) (w27 H) Via.refl e5 ((f9_value H).ext Ol0.2) d9_37 rfl ?_
  intro T6 X6 e6
  refine g_aloadN X6 K (q := 41) d9_40 rfl rfl rfl ?_
  refine g_getf X6 K (q := 44) (w27 H) Via.refl e6 F_2 d9_41 rfl ?_
  intro T7 X7 e7
  refine g_static X7 K (q := 47) (W := 0) (w66 H) (w67 H) (w68 H) (w69 H) (by decide) (rm10_11 l H a2 k1 h0 Ol0 A_1) e7 rfl (argsL := [(.ref (ad15 Z a0)), (.ref a2)]) (rest := []) (lenOf pd_6 rfl) rfl rfl (Nat.le_of_eq rfl) d9_44 (by decide) (by decide) (by decide) (by decide) rfl ?_
  rintro T8 v8 L8 X8 ⟨rfl, N8q, e8⟩
  have N8 := Fr.app (Fr.nil _) N8q
  show Go p e below _ T8 (mkF m 47 #[.val (.ref (ad9 Z a0)), .val (.ref a1), .val (.ref a1)] [(.int (0 : Int32))])
  refine g_ifY X8 K (q := 54) d9_47 (by decide) (by decide) (by decide) ?_
  refine g_iconst X8 K (q := 55) (v := (0 : Int32)) d9_54 (by decide) rfl ?_
  refine g_nret X8 K (by simp) (z' := (0 : Int32)) (by decide) d9_55 (by decide) (by decide) ?_
  exact ⟨rfl, N8, e8⟩
set_option maxRecDepth 65536 in
set_option maxHeartbeats 40000000 in
theorem rm10_13 (l : Launch) {Z : State} {a0 : Array Value} (H : Hyp Z a0) (a1 : Addr) (k1 : ClassId) (h0 : Heap) (Ol : Old Z Z.heap.size h0) (A_1 : Arv Z h0 a1 k1 .byte (0 : Int32) [] (.int (0 : Int32))) :
    Mt l Z (⟨"java/lang/StringLatin1", "equals", "([B[B)Z"⟩ : MethodName) jdk_43_method_13_code 3 (some .boolean) [] ({ frames := 0, cells := 0, slots := 0, locals := 0 } : Room) #[(.ref (ad16 Z a0)), (.ref a1)] h0 (fun v h L => (v = some (.int (0 : Int32)) ∧ Fr Z.heap.size L ∧ h = h0)) := by
  refine g_body (plainFor_of_name pn_java_lang_StringLatin1) ?_
  intro p e s m below meth c T0 K X0 e0
  refine g_entry (ef_6 m (ad16 Z a0) a1) ?_
  have Ol0 := Ol
  refine g_aloadN X0 K (q := 1) d10_0 rfl rfl rfl ?_
  refine g_len X0 K (q := 2) e0 ((v16 H).ext Ol0.2) d10_1 rfl ?_
  refine g_aloadN X0 K (q := 3) d10_2 rfl rfl rfl ?_
  refine g_len X0 K (q := 4) e0 A_1 d10_3 rfl ?_
  refine g_icY X0 K (q := 34) d10_4 (by decide) (by decide) (by decide) ?_
  refine g_iconst X0 K (q := 35) (v := (0 : Int32)) d10_34 (by decide) rfl ?_
  refine g_nret X0 K (by simp) (z' := (0 : Int32)) (by decide) d10_35 (by decide) (by decide) ?_
  exact ⟨rfl, (Fr.nil _), e0⟩
set_option maxRecDepth 65536 in
set_option maxHeartbeats 40000000 in
theorem rm9_14 (l : Launch) {Z : State} {a0 : Array Value} (H : Hyp Z a0) (a1 : Addr) (a2 : Addr) (k1 : ClassId) (h0 : Heap) (Ol : Old Z Z.heap.size h0) (ge_1 : Z.heap.size ≤ a1) (E_1 : Exa Z h0 a1 "java/lang/String") (F_1 : Fld Z h0 a1 "java/lang/String" "coder" "B" (.int (0 : Int32))) (F_2 : Fld Z h0 a1 "java/lang/String" "value" "[B" (.ref a2)) (A_1 : Arv Z h0 a2 k1 .byte (0 : Int32) [] (.int (0 : Int32))) :
    Mt l Z (⟨"java/lang/String", "equals", "(Ljava/lang/Object;)Z"⟩ : MethodName) jdk_42_method_66_code 3 (some .boolean) [] ({ frames := 1, cells := 0, slots := 0, locals := 14 } : Room) #[(.ref (ad10 Z a0)), (.ref a1)] h0 (fun v h L => (v = some (.int (0 : Int32)) ∧ Fr Z.heap.size L ∧ h = h0)) := by
  refine g_body (plainFor_of_name pn_java_lang_String) ?_
  intro p e s m below meth c T0 K X0 e0
  refine g_entry (ef_6 m (ad10 Z a0) a1) ?_
  have Ol0 := Ol
  refine g_aloadN X0 K (q := 1) d9_0 rfl rfl rfl ?_
  refine g_aloadN X0 K (q := 2) d9_1 rfl rfl rfl ?_
  have ne1 : (ad10 Z a0) ≠ a1 := (Nat.ne_of_lt (Nat.lt_of_lt_of_le (f10_value H).lt ge_1))
  refine g_ac X0 K (q := 7) (same := false) d9_2 rfl rfl (decide_eq_false fun q => ne1 (Value.ref.inj q)) (by decide) (by decide) ?_
  refine g_aloadN X0 K (q := 8) d9_7 rfl rfl rfl ?_
  refine g_instY X0 K (q := 11) (w64 H) e0 (Ins.self E_1) d9_8 rfl ?_
  intro T1 X1 e1
  refine g_ifN X1 K (q := 14) d9_11 (by decide) rfl ?_
  refine g_aloadN X1 K (q := 15) d9_14 rfl rfl rfl ?_
  refine g_cast X1 K (q := 18) (w64 H) e1 (Ins.self E_1) d9_15 rfl ?_
  intro T2 X2 e2
  refine g_astoreN X2 K (q := 19) (L' := #[.val (.ref (ad10 Z a0)), .val (.ref a1), .val (.ref a1)]) d9_18 rfl rfl rfl ?_
  refine g_gets X2 K (q := 22) (w65 H) e2 ((ivs0 H).ext Ol0.2) d9_19 rfl ?_
  intro T3 X3 e3
  refine g_ifN X3 K (q := 25) d9_22 (feq (ivn0 H)).1 rfl ?_
  refine g_aloadN X3 K (q := 26) d9_25 rfl rfl rfl ?_
  refine g_getf X3 K (q := 29) (w28 H) Via.refl e3 ((f10_coder H).ext Ol0.2) d9_26 rfl ?_
  intro T4 X4 e4
  refine g_aloadN X4 K (q := 30) d9_29 rfl rfl rfl ?_
  refine g_getf X4 K (q := 33) (w28 H) Via.refl e4 F_1 d9_30 rfl ?_
  intro T5 X5 e5
  refine g_icN X5 K (q := 36) d9_33 (by decide) rfl ?_
  refine g_aloadN X5 K (q := 37) d9_36 rfl rfl rfl ?_
  refine g_getf X5 K (q := 40) (w27 H) Via.refl e5 ((f10_value H).ext Ol0.2) d9_37 rfl ?_
  intro T6 X6 e6
  refine g_aloadN X6 K (q := 41) d9_40 rfl rfl rfl ?_
  refine g_getf X6 K (q := 44) (w27 H) Via.refl e6 F_2 d9_41 rfl ?_
  intro T7 X7 e7
  refine g_static X7 K (q := 47) (W := 0) (w66 H) (w67 H) (w68 H) (w69 H) (by decide) (rm10_13 l H a2 k1 h0 Ol0 A_1) e7 rfl (argsL := [(.ref (ad16 Z a0)), (.ref a2)]) (rest := []) (lenOf pd_6 rfl) rfl rfl (Nat.le_of_eq rfl) d9_44 (by decide) (by decide) (by decide) (by decide) rfl ?_
  rintro T8 v8 L8 X8 ⟨rfl, N8q, e8⟩
  have N8 := Fr.app (Fr.nil _) N8q
  show Go p e below _ T8 (mkF m 47 #[.val (.ref (ad10 Z a0)), .val (.ref a1), .val (.ref a1)] [(.int (0 : Int32))])
  refine g_ifY X8 K (q := 54) d9_47 (by decide) (by decide) (by decide) ?_
  refine g_iconst X8 K (q := 55) (v := (0 : Int32)) d9_54 (by decide) rfl ?_
  refine g_nret X8 K (by simp) (z' := (0 : Int32)) (by decide) d9_55 (by decide) (by decide) ?_
  exact ⟨rfl, N8, e8⟩
set_option maxRecDepth 65536 in
set_option maxHeartbeats 40000000 in
theorem rm10_15 (l : Launch) {Z : State} {a0 : Array Value} (H : Hyp Z a0) (a1 : Addr) (k1 : ClassId) (h0 : Heap) (Ol : Old Z Z.heap.size h0) (A_1 : Arv Z h0 a1 k1 .byte (0 : Int32) [] (.int (0 : Int32))) :
    Mt l Z (⟨"java/lang/StringLatin1", "equals", "([B[B)Z"⟩ : MethodName) jdk_43_method_13_code 3 (some .boolean) [] ({ frames := 0, cells := 0, slots := 0, locals := 0 } : Room) #[(.ref (ad17 Z a0)), (.ref a1)] h0 (fun v h L => (v = some (.int (0 : Int32)) ∧ Fr Z.heap.size L ∧ h = h0)) := by
  refine g_body (plainFor_of_name pn_java_lang_StringLatin1) ?_
  intro p e s m below meth c T0 K X0 e0
  refine g_entry (ef_6 m (ad17 Z a0) a1) ?_
  have Ol0 := Ol
  refine g_aloadN X0 K (q := 1) d10_0 rfl rfl rfl ?_
  refine g_len X0 K (q := 2) e0 ((v17 H).ext Ol0.2) d10_1 rfl ?_
  refine g_aloadN X0 K (q := 3) d10_2 rfl rfl rfl ?_
  refine g_len X0 K (q := 4) e0 A_1 d10_3 rfl ?_
  refine g_icY X0 K (q := 34) d10_4 (by decide) (by decide) (by decide) ?_
  refine g_iconst X0 K (q := 35) (v := (0 : Int32)) d10_34 (by decide) rfl ?_
  refine g_nret X0 K (by simp) (z' := (0 : Int32)) (by decide) d10_35 (by decide) (by decide) ?_
  exact ⟨rfl, (Fr.nil _), e0⟩
set_option maxRecDepth 65536 in
set_option maxHeartbeats 40000000 in
theorem rm9_16 (l : Launch) {Z : State} {a0 : Array Value} (H : Hyp Z a0) (a1 : Addr) (a2 : Addr) (k1 : ClassId) (h0 : Heap) (Ol : Old Z Z.heap.size h0) (ge_1 : Z.heap.size ≤ a1) (E_1 : Exa Z h0 a1 "java/lang/String") (F_1 : Fld Z h0 a1 "java/lang/String" "coder" "B" (.int (0 : Int32))) (F_2 : Fld Z h0 a1 "java/lang/String" "value" "[B" (.ref a2)) (A_1 : Arv Z h0 a2 k1 .byte (0 : Int32) [] (.int (0 : Int32))) :
    Mt l Z (⟨"java/lang/String", "equals", "(Ljava/lang/Object;)Z"⟩ : MethodName) jdk_42_method_66_code 3 (some .boolean) [] ({ frames := 1, cells := 0, slots := 0, locals := 14 } : Room) #[(.ref (ad11 Z a0)), (.ref a1)] h0 (fun v h L => (v = some (.int (0 : Int32)) ∧ Fr Z.heap.size L ∧ h = h0)) := by
  refine g_body (plainFor_of_name pn_java_lang_String) ?_
  intro p e s m below meth c T0 K X0 e0
  refine g_entry (ef_6 m (ad11 Z a0) a1) ?_
  have Ol0 := Ol
  refine g_aloadN X0 K (q := 1) d9_0 rfl rfl rfl ?_
  refine g_aloadN X0 K (q := 2) d9_1 rfl rfl rfl ?_
  have ne1 : (ad11 Z a0) ≠ a1 := (Nat.ne_of_lt (Nat.lt_of_lt_of_le (f11_value H).lt ge_1))
  refine g_ac X0 K (q := 7) (same := false) d9_2 rfl rfl (decide_eq_false fun q => ne1 (Value.ref.inj q)) (by decide) (by decide) ?_
  refine g_aloadN X0 K (q := 8) d9_7 rfl rfl rfl ?_
  refine g_instY X0 K (q := 11) (w64 H) e0 (Ins.self E_1) d9_8 rfl ?_
  intro T1 X1 e1
  refine g_ifN X1 K (q := 14) d9_11 (by decide) rfl ?_
  refine g_aloadN X1 K (q := 15) d9_14 rfl rfl rfl ?_
  refine g_cast X1 K (q := 18) (w64 H) e1 (Ins.self E_1) d9_15 rfl ?_
  intro T2 X2 e2
  refine g_astoreN X2 K (q := 19) (L' := #[.val (.ref (ad11 Z a0)), .val (.ref a1), .val (.ref a1)]) d9_18 rfl rfl rfl ?_
  refine g_gets X2 K (q := 22) (w65 H) e2 ((ivs0 H).ext Ol0.2) d9_19 rfl ?_
  intro T3 X3 e3
  refine g_ifN X3 K (q := 25) d9_22 (feq (ivn0 H)).1 rfl ?_
  refine g_aloadN X3 K (q := 26) d9_25 rfl rfl rfl ?_
  refine g_getf X3 K (q := 29) (w28 H) Via.refl e3 ((f11_coder H).ext Ol0.2) d9_26 rfl ?_
  intro T4 X4 e4
  refine g_aloadN X4 K (q := 30) d9_29 rfl rfl rfl ?_
  refine g_getf X4 K (q := 33) (w28 H) Via.refl e4 F_1 d9_30 rfl ?_
  intro T5 X5 e5
  refine g_icN X5 K (q := 36) d9_33 (by decide) rfl ?_
  refine g_aloadN X5 K (q := 37) d9_36 rfl rfl rfl ?_
  refine g_getf X5 K (q := 40) (w27 H) Via.refl e5 ((f11_value H).ext Ol0.2) d9_37 rfl ?_
  intro T6 X6 e6
  refine g_aloadN X6 K (q := 41) d9_40 rfl rfl rfl ?_
  refine g_getf X6 K (q := 44) (w27 H) Via.refl e6 F_2 d9_41 rfl ?_
  intro T7 X7 e7
  refine g_static X7 K (q := 47) (W := 0) (w66 H) (w67 H) (w68 H) (w69 H) (by decide) (rm10_15 l H a2 k1 h0 Ol0 A_1) e7 rfl (argsL := [(.ref (ad17 Z a0)), (.ref a2)]) (rest := []) (lenOf pd_6 rfl) rfl rfl (Nat.le_of_eq rfl) d9_44 (by decide) (by decide) (by decide) (by decide) rfl ?_
  rintro T8 v8 L8 X8 ⟨rfl, N8q, e8⟩
  have N8 := Fr.app (Fr.nil _) N8q
  show Go p e below _ T8 (mkF m 47 #[.val (.ref (ad11 Z a0)), .val (.ref a1), .val (.ref a1)] [(.int (0 : Int32))])
  refine g_ifY X8 K (q := 54) d9_47 (by decide) (by decide) (by decide) ?_
  refine g_iconst X8 K (q := 55) (v := (0 : Int32)) d9_54 (by decide) rfl ?_
  refine g_nret X8 K (by simp) (z' := (0 : Int32)) (by decide) d9_55 (by decide) (by decide) ?_
  exact ⟨rfl, N8, e8⟩
set_option maxRecDepth 65536 in
set_option maxHeartbeats 40000000 in
theorem rm10_17 (l : Launch) {Z : State} {a0 : Array Value} (H : Hyp Z a0) (a1 : Addr) (k1 : ClassId) (h0 : Heap) (Ol : Old Z Z.heap.size h0) (A_1 : Arv Z h0 a1 k1 .byte (0 : Int32) [] (.int (0 : Int32))) :
    Mt l Z (⟨"java/lang/StringLatin1", "equals", "([B[B)Z"⟩ : MethodName) jdk_43_method_13_code 3 (some .boolean) [] ({ frames := 0, cells := 0, slots := 0, locals := 0 } : Room) #[(.ref (ad18 Z a0)), (.ref a1)] h0 (fun v h L => (v = some (.int (0 : Int32)) ∧ Fr Z.heap.size L ∧ h = h0)) := by
  refine g_body (plainFor_of_name pn_java_lang_StringLatin1) ?_
  intro p e s m below meth c T0 K X0 e0
  refine g_entry (ef_6 m (ad18 Z a0) a1) ?_
  have Ol0 := Ol
  refine g_aloadN X0 K (q := 1) d10_0 rfl rfl rfl ?_
  refine g_len X0 K (q := 2) e0 ((v18 H).ext Ol0.2) d10_1 rfl ?_
  refine g_aloadN X0 K (q := 3) d10_2 rfl rfl rfl ?_
  refine g_len X0 K (q := 4) e0 A_1 d10_3 rfl ?_
  refine g_icY X0 K (q := 34) d10_4 (by decide) (by decide) (by decide) ?_
  refine g_iconst X0 K (q := 35) (v := (0 : Int32)) d10_34 (by decide) rfl ?_
  refine g_nret X0 K (by simp) (z' := (0 : Int32)) (by decide) d10_35 (by decide) (by decide) ?_
  exact ⟨rfl, (Fr.nil _), e0⟩
set_option maxRecDepth 65536 in
set_option maxHeartbeats 40000000 in
theorem rm9_18 (l : Launch) {Z : State} {a0 : Array Value} (H : Hyp Z a0) (a1 : Addr) (a2 : Addr) (k1 : ClassId) (h0 : Heap) (Ol : Old Z Z.heap.size h0) (ge_1 : Z.heap.size ≤ a1) (E_1 : Exa Z h0 a1 "java/lang/String") (F_1 : Fld Z h0 a1 "java/lang/String" "coder" "B" (.int (0 : Int32))) (F_2 : Fld Z h0 a1 "java/lang/String" "value" "[B" (.ref a2)) (A_1 : Arv Z h0 a2 k1 .byte (0 : Int32) [] (.int (0 : Int32))) :
    Mt l Z (⟨"java/lang/String", "equals", "(Ljava/lang/Object;)Z"⟩ : MethodName) jdk_42_method_66_code 3 (some .boolean) [] ({ frames := 1, cells := 0, slots := 0, locals := 14 } : Room) #[(.ref (ad12 Z a0)), (.ref a1)] h0 (fun v h L => (v = some (.int (0 : Int32)) ∧ Fr Z.heap.size L ∧ h = h0)) := by
  refine g_body (plainFor_of_name pn_java_lang_String) ?_
  intro p e s m below meth c T0 K X0 e0
  refine g_entry (ef_6 m (ad12 Z a0) a1) ?_
  have Ol0 := Ol
  refine g_aloadN X0 K (q := 1) d9_0 rfl rfl rfl ?_
  refine g_aloadN X0 K (q := 2) d9_1 rfl rfl rfl ?_
  have ne1 : (ad12 Z a0) ≠ a1 := (Nat.ne_of_lt (Nat.lt_of_lt_of_le (f12_value H).lt ge_1))
  refine g_ac X0 K (q := 7) (same := false) d9_2 rfl rfl (decide_eq_false fun q => ne1 (Value.ref.inj q)) (by decide) (by decide) ?_
  refine g_aloadN X0 K (q := 8) d9_7 rfl rfl rfl ?_
  refine g_instY X0 K (q := 11) (w64 H) e0 (Ins.self E_1) d9_8 rfl ?_
  intro T1 X1 e1
  refine g_ifN X1 K (q := 14) d9_11 (by decide) rfl ?_
  refine g_aloadN X1 K (q := 15) d9_14 rfl rfl rfl ?_
  refine g_cast X1 K (q := 18) (w64 H) e1 (Ins.self E_1) d9_15 rfl ?_
  intro T2 X2 e2
  refine g_astoreN X2 K (q := 19) (L' := #[.val (.ref (ad12 Z a0)), .val (.ref a1), .val (.ref a1)]) d9_18 rfl rfl rfl ?_
  refine g_gets X2 K (q := 22) (w65 H) e2 ((ivs0 H).ext Ol0.2) d9_19 rfl ?_
  intro T3 X3 e3
  refine g_ifN X3 K (q := 25) d9_22 (feq (ivn0 H)).1 rfl ?_
  refine g_aloadN X3 K (q := 26) d9_25 rfl rfl rfl ?_
  refine g_getf X3 K (q := 29) (w28 H) Via.refl e3 ((f12_coder H).ext Ol0.2) d9_26 rfl ?_
  intro T4 X4 e4
  refine g_aloadN X4 K (q := 30) d9_29 rfl rfl rfl ?_
  refine g_getf X4 K (q := 33) (w28 H) Via.refl e4 F_1 d9_30 rfl ?_
  intro T5 X5 e5
  refine g_icN X5 K (q := 36) d9_33 (by decide) rfl ?_
  refine g_aloadN X5 K (q := 37) d9_36 rfl rfl rfl ?_
  refine g_getf X5 K (q := 40) (w27 H) Via.refl e5 ((f12_value H).ext Ol0.2) d9_37 rfl ?_
  intro T6 X6 e6
  refine g_aloadN X6 K (q := 41) d9_40 rfl rfl rfl ?_
  refine g_getf X6 K (q := 44) (w27 H) Via.refl e6 F_2 d9_41 rfl ?_
  intro T7 X7 e7
  refine g_static X7 K (q := 47) (W := 0) (w66 H) (w67 H) (w68 H) (w69 H) (by decide) (rm10_17 l H a2 k1 h0 Ol0 A_1) e7 rfl (argsL := [(.ref (ad18 Z a0)), (.ref a2)]) (rest := []) (lenOf pd_6 rfl) rfl rfl (Nat.le_of_eq rfl) d9_44 (by decide) (by decide) (by decide) (by decide) rfl ?_
  rintro T8 v8 L8 X8 ⟨rfl, N8q, e8⟩
  have N8 := Fr.app (Fr.nil _) N8q
  show Go p e below _ T8 (mkF m 47 #[.val (.ref (ad12 Z a0)), .val (.ref a1), .val (.ref a1)] [(.int (0 : Int32))])
  refine g_ifY X8 K (q := 54) d9_47 (by decide) (by decide) (by decide) ?_
  refine g_iconst X8 K (q := 55) (v := (0 : Int32)) d9_54 (by decide) rfl ?_
  refine g_nret X8 K (by simp) (z' := (0 : Int32)) (by decide) d9_55 (by decide) (by decide) ?_
  exact ⟨rfl, N8, e8⟩
set_option maxRecDepth 65536 in
set_option maxHeartbeats 40000000 in
theorem rm7_19 (l : Launch) {Z : State} {a0 : Array Value} (H : Hyp Z a0) (a1 : Addr) (a2 : Addr) (k1 : ClassId) (h0 : Heap) (Ol : Old Z Z.heap.size h0) (F_1 : Fld Z h0 a1 "java/lang/String" "coder" "B" (.int (0 : Int32))) (F_2 : Fld Z h0 a1 "java/lang/String" "value" "[B" (.ref a2)) (A_1 : Arv Z h0 a2 k1 .byte (0 : Int32) [] (.int (0 : Int32))) (ge_1 : Z.heap.size ≤ a1) (E_1 : Exa Z h0 a1 "java/lang/String") :
    Mt l Z (⟨"com/example/annotable/annotable/PathQuery$Comparison", "of", "(Ljava/lang/String;)Lcom/example/annotable/annotable/PathQuery$Comparison;"⟩ : MethodName) prog_16_method_6_code 5 (some (.object "com/example/annotable/annotable/PathQuery$Comparison")) [] ({ frames := 2, cells := 1, slots := 6, locals := 28 } : Room) #[(.ref a1)] h0 (fun v h L => (v = some .null ∧ Fr Z.heap.size L ∧ Keep h0 h [])) := by
  refine g_body (plainFor_of_name pn_com_example_annotable_annotable_PathQuery_Comparison) ?_
  intro p e s m below meth c T0 K X0 e0
  refine g_entry (ef_7 m a1) ?_
  have nw_a1 : a1 ∉ [] := nin0
  have nw_a2 : a2 ∉ [] := nin0
  have Ol0 := Ol
  refine g_static X0 K (q := 3) (W := 0) (w36 H) (w37 H) (w34 H) (w38 H) (by decide) (rm8_6 l H h0 Ol0) e0 rfl (argsL := []) (rest := []) (lenOf pd_5 rfl) rfl rfl (Nat.le_of_eq rfl) d7_0 (by decide) (by decide) (by decide) (by decide) rfl ?_
  rintro T1 v1 L1 X1 ⟨bx1, rfl, N1q, Kc1, lz1_0, g1, g2⟩
  have szbx1 := Nat.le_trans (Keep.refl h0 []).1 lz1_0
  have gebx1 := Nat.le_trans Ol0.2.1 lz1_0
  have so1 := Sd.one bx1
  obtain ⟨N1, Ol1, Kp1⟩ := ivK (Fr.nil _) Ol0 (Keep.refl h0 []) N1q Kc1 all0 all0
  show Go p e below _ T1 (mkF m 3 #[.val (.ref a1), .unset, .unset, .unset, .unset] [(.ref bx1)])
  refine g_astoreN X1 K (q := 4) (L' := #[.val (.ref a1), .val (.ref bx1), .unset, .unset, .unset]) d7_3 rfl rfl rfl ?_
  refine g_aloadN X1 K (q := 5) d7_4 rfl rfl rfl ?_
  refine g_len X1 K (q := 6) rfl g1 d7_5 rfl ?_
  refine g_istoreN X1 K (q := 7) (L' := #[.val (.ref a1), .val (.ref bx1), .val (.int (6 : Int32)), .unset, .unset]) d7_6 rfl rfl ?_
  refine g_iconst X1 K (q := 8) (v := (0 : Int32)) d7_7 (by decide) rfl ?_
  refine g_istoreN X1 K (q := 9) (L' := #[.val (.ref a1), .val (.ref bx1), .val (.int (6 : Int32)), .val (.int (0 : Int32)), .unset]) d7_8 rfl rfl ?_
  refine g_iloadN X1 K (q := 10) d7_9 rfl rfl ?_
  refine g_iloadN X1 K (q := 11) d7_10 rfl rfl ?_
  refine g_icN X1 K (q := 14) d7_11 (by decide) rfl ?_
  refine g_aloadN X1 K (q := 15) d7_14 rfl rfl rfl ?_
  refine g_iloadN X1 K (q := 16) d7_15 rfl rfl ?_
  refine g_aald X1 K (q := 17) (v := (.ref (ad1 Z a0))) rfl g1 rfl (by decide) rfl d7_16 rfl ?_
  refine g_astore X1 K (q := 19) (L' := #[.val (.ref a1), .val (.ref bx1), .val (.int (6 : Int32)), .val (.int (0 : Int32)), .val (.ref (ad1 Z a0))]) d7_17 rfl rfl rfl ?_
  refine g_aload X1 K (q := 21) d7_19 rfl rfl rfl ?_
  refine g_getf X1 K (q := 24) (w57 H) Via.refl rfl ((f1_symbol H).ext Ol1.2) d7_21 rfl ?_
  intro T2 X2 e2
  refine g_aloadN X2 K (q := 25) d7_24 rfl rfl rfl ?_
  have f1 := E_1.keep Kp1
  have f2 := F_1.keep Kp1 nw_a1
  have f3 := F_2.keep Kp1 nw_a1
  have f4 := A_1.keep Kp1 nw_a2
  refine g_virtual X2 K (q := 28) (W := 0) (a := (ad7 Z a0)) (w59 H) (w60 H) (nf_self K (w62 H)) (w62 H) (w61 H) (w9 H) (w63 H) (by decide) (rm9_8 l H a1 a2 k1 T1.heap Ol1 ge_1 f1 f2 f3 f4) e2 ((x7 H).ext Ol1.2) rfl (argsL := [(.ref a1)]) (rest := []) (lenOf pd_7 rfl) rfl rfl (Nat.le_of_eq rfl) d7_25 (by decide) (by decide) (by decide) (by decide) rfl ?_
  rintro T3 v3 L3 X3 ⟨rfl, N3q, e3⟩
  have N3 := Fr.app N1 N3q
  show Go p e below _ T3 (mkF m 28 #[.val (.ref a1), .val (.ref bx1), .val (.int (6 : Int32)), .val (.int (0 : Int32)), .val (.ref (ad1 Z a0))] [(.int (0 : Int32))])
  refine g_ifY X3 K (q := 34) d7_28 (by decide) (by decide) (by decide) ?_
  refine g_iinc X3 K (q := 37) (z := (1 : Int32)) (L' := #[.val (.ref a1), .val (.ref bx1), .val (.int (6 : Int32)), .val (.int (1 : Int32)), .val (.ref (ad1 Z a0))]) d7_34 rfl (by decide) rfl rfl ?_
  refine g_goto X3 K (q := 9) d7_37 (by decide) (by decide) ?_
  refine g_iloadN X3 K (q := 10) d7_9 rfl rfl ?_
  refine g_iloadN X3 K (q := 11) d7_10 rfl rfl ?_
  refine g_icN X3 K (q := 14) d7_11 (by decide) rfl ?_
  refine g_aloadN X3 K (q := 15) d7_14 rfl rfl rfl ?_
  refine g_iloadN X3 K (q := 16) d7_15 rfl rfl ?_
  refine g_aald X3 K (q := 17) (v := (.ref (ad2 Z a0))) e3 g1 rfl (by decide) rfl d7_16 rfl ?_
  refine g_astore X3 K (q := 19) (L' := #[.val (.ref a1), .val (.ref bx1), .val (.int (6 : Int32)), .val (.int (1 : Int32)), .val (.ref (ad2 Z a0))]) d7_17 rfl rfl rfl ?_
  refine g_aload X3 K (q := 21) d7_19 rfl rfl rfl ?_
  refine g_getf X3 K (q := 24) (w57 H) Via.refl e3 ((f2_symbol H).ext Ol1.2) d7_21 rfl ?_
  intro T4 X4 e4
  refine g_aloadN X4 K (q := 25) d7_24 rfl rfl rfl ?_
  refine g_virtual X4 K (q := 28) (W := 0) (a := (ad8 Z a0)) (w59 H) (w60 H) (nf_self K (w62 H)) (w62 H) (w61 H) (w9 H) (w63 H) (by decide) (rm9_10 l H a1 a2 k1 T1.heap Ol1 ge_1 f1 f2 f3 f4) e4 ((x8 H).ext Ol1.2) rfl (argsL := [(.ref a1)]) (rest := []) (lenOf pd_7 rfl) rfl rfl (Nat.le_of_eq rfl) d7_25 (by decide) (by decide) (by decide) (by decide) rfl ?_
  rintro T5 v5 L5 X5 ⟨rfl, N5q, e5⟩
  have N5 := Fr.app N3 N5q
  show Go p e below _ T5 (mkF m 28 #[.val (.ref a1), .val (.ref bx1), .val (.int (6 : Int32)), .val (.int (1 : Int32)), .val (.ref (ad2 Z a0))] [(.int (0 : Int32))])
  refine g_ifY X5 K (q := 34) d7_28 (by decide) (by decide) (by decide) ?_
  refine g_iinc X5 K (q := 37) (z := (2 : Int32)) (L' := #[.val (.ref a1), .val (.ref bx1), .val (.int (6 : Int32)), .val (.int (2 : Int32)), .val (.ref (ad2 Z a0))]) d7_34 rfl (by decide) rfl rfl ?_
  refine g_goto X5 K (q := 9) d7_37 (by decide) (by decide) ?_
  refine g_iloadN X5 K (q := 10) d7_9 rfl rfl ?_
  refine g_iloadN X5 K (q := 11) d7_10 rfl rfl ?_
  refine g_icN X5 K (q := 14) d7_11 (by decide) rfl ?_
  refine g_aloadN X5 K (q := 15) d7_14 rfl rfl rfl ?_
  refine g_iloadN X5 K (q := 16) d7_15 rfl rfl ?_
  refine g_aald X5 K (q := 17) (v := (.ref (ad3 Z a0))) e5 g1 rfl (by decide) rfl d7_16 rfl ?_
  refine g_astore X5 K (q := 19) (L' := #[.val (.ref a1), .val (.ref bx1), .val (.int (6 : Int32)), .val (.int (2 : Int32)), .val (.ref (ad3 Z a0))]) d7_17 rfl rfl rfl ?_
  refine g_aload X5 K (q := 21) d7_19 rfl rfl rfl ?_
  refine g_getf X5 K (q := 24) (w57 H) Via.refl e5 ((f3_symbol H).ext Ol1.2) d7_21 rfl ?_
  intro T6 X6 e6
  refine g_aloadN X6 K (q := 25) d7_24 rfl rfl rfl ?_
  refine g_virtual X6 K (q := 28) (W := 0) (a := (ad9 Z a0)) (w59 H) (w60 H) (nf_self K (w62 H)) (w62 H) (w61 H) (w9 H) (w63 H) (by decide) (rm9_12 l H a1 a2 k1 T1.heap Ol1 ge_1 f1 f2 f3 f4) e6 ((x9 H).ext Ol1.2) rfl (argsL := [(.ref a1)]) (rest := []) (lenOf pd_7 rfl) rfl rfl (Nat.le_of_eq rfl) d7_25 (by decide) (by decide) (by decide) (by decide) rfl ?_
  rintro T7 v7 L7 X7 ⟨rfl, N7q, e7⟩
  have N7 := Fr.app N5 N7q
  show Go p e below _ T7 (mkF m 28 #[.val (.ref a1), .val (.ref bx1), .val (.int (6 : Int32)), .val (.int (2 : Int32)), .val (.ref (ad3 Z a0))] [(.int (0 : Int32))])
  refine g_ifY X7 K (q := 34) d7_28 (by decide) (by decide) (by decide) ?_
  refine g_iinc X7 K (q := 37) (z := (3 : Int32)) (L' := #[.val (.ref a1), .val (.ref bx1), .val (.int (6 : Int32)), .val (.int (3 : Int32)), .val (.ref (ad3 Z a0))]) d7_34 rfl (by decide) rfl rfl ?_
  refine g_goto X7 K (q := 9) d7_37 (by decide) (by decide) ?_
  refine g_iloadN X7 K (q := 10) d7_9 rfl rfl ?_
  refine g_iloadN X7 K (q := 11) d7_10 rfl rfl ?_
  refine g_icN X7 K (q := 14) d7_11 (by decide) rfl ?_
  refine g_aloadN X7 K (q := 15) d7_14 rfl rfl rfl ?_
  refine g_iloadN X7 K (q := 16) d7_15 rfl rfl ?_
  refine g_aald X7 K (q := 17) (v := (.ref (ad4 Z a0))) e7 g1 rfl (by decide) rfl d7_16 rfl ?_
  refine g_astore X7 K (q := 19) (L' := #[.val (.ref a1), .val (.ref bx1), .val (.int (6 : Int32)), .val (.int (3 : Int32)), .val (.ref (ad4 Z a0))]) d7_17 rfl rfl rfl ?_
  refine g_aload X7 K (q := 21) d7_19 rfl rfl rfl ?_
  refine g_getf X7 K (q := 24) (w57 H) Via.refl e7 ((f4_symbol H).ext Ol1.2) d7_21 rfl ?_
  intro T8 X8 e8
  refine g_aloadN X8 K (q := 25) d7_24 rfl rfl rfl ?_
  refine g_virtual X8 K (q := 28) (W := 0) (a := (ad10 Z a0)) (w59 H) (w60 H) (nf_self K (w62 H)) (w62 H) (w61 H) (w9 H) (w63 H) (by decide) (rm9_14 l H a1 a2 k1 T1.heap Ol1 ge_1 f1 f2 f3 f4) e8 ((x10 H).ext Ol1.2) rfl (argsL := [(.ref a1)]) (rest := []) (lenOf pd_7 rfl) rfl rfl (Nat.le_of_eq rfl) d7_25 (by decide) (by decide) (by decide) (by decide) rfl ?_
  rintro T9 v9 L9 X9 ⟨rfl, N9q, e9⟩
  have N9 := Fr.app N7 N9q
  show Go p e below _ T9 (mkF m 28 #[.val (.ref a1), .val (.ref bx1), .val (.int (6 : Int32)), .val (.int (3 : Int32)), .val (.ref (ad4 Z a0))] [(.int (0 : Int32))])
  refine g_ifY X9 K (q := 34) d7_28 (by decide) (by decide) (by decide) ?_
  refine g_iinc X9 K (q := 37) (z := (4 : Int32)) (L' := #[.val (.ref a1), .val (.ref bx1), .val (.int (6 : Int32)), .val (.int (4 : Int32)), .val (.ref (ad4 Z a0))]) d7_34 rfl (by decide) rfl rfl ?_
  refine g_goto X9 K (q := 9) d7_37 (by decide) (by decide) ?_
  refine g_iloadN X9 K (q := 10) d7_9 rfl rfl ?_
  refine g_iloadN X9 K (q := 11) d7_10 rfl rfl ?_
  refine g_icN X9 K (q := 14) d7_11 (by decide) rfl ?_
  refine g_aloadN X9 K (q := 15) d7_14 rfl rfl rfl ?_
  refine g_iloadN X9 K (q := 16) d7_15 rfl rfl ?_
  refine g_aald X9 K (q := 17) (v := (.ref (ad5 Z a0))) e9 g1 rfl (by decide) rfl d7_16 rfl ?_
  refine g_astore X9 K (q := 19) (L' := #[.val (.ref a1), .val (.ref bx1), .val (.int (6 : Int32)), .val (.int (4 : Int32)), .val (.ref (ad5 Z a0))]) d7_17 rfl rfl rfl ?_
  refine g_aload X9 K (q := 21) d7_19 rfl rfl rfl ?_
  refine g_getf X9 K (q := 24) (w57 H) Via.refl e9 ((f5_symbol H).ext Ol1.2) d7_21 rfl ?_
  intro T10 X10 e10
  refine g_aloadN X10 K (q := 25) d7_24 rfl rfl rfl ?_
  refine g_virtual X10 K (q := 28) (W := 0) (a := (ad11 Z a0)) (w59 H) (w60 H) (nf_self K (w62 H)) (w62 H) (w61 H) (w9 H) (w63 H) (by decide) (rm9_16 l H a1 a2 k1 T1.heap Ol1 ge_1 f1 f2 f3 f4) e10 ((x11 H).ext Ol1.2) rfl (argsL := [(.ref a1)]) (rest := []) (lenOf pd_7 rfl) rfl rfl (Nat.le_of_eq rfl) d7_25 (by decide) (by decide) (by decide) (by decide) rfl ?_
  rintro T11 v11 L11 X11 ⟨rfl, N11q, e11⟩
  have N11 := Fr.app N9 N11q
  show Go p e below _ T11 (mkF m 28 #[.val (.ref a1), .val (.ref bx1), .val (.int (6 : Int32)), .val (.int (4 : Int32)), .val (.ref (ad5 Z a0))] [(.int (0 : Int32))])
  refine g_ifY X11 K (q := 34) d7_28 (by decide) (by decide) (by decide) ?_
  refine g_iinc X11 K (q := 37) (z := (5 : Int32)) (L' := #[.val (.ref a1), .val (.ref bx1), .val (.int (6 : Int32)), .val (.int (5 : Int32)), .val (.ref (ad5 Z a0))]) d7_34 rfl (by decide) rfl rfl ?_
  refine g_goto X11 K (q := 9) d7_37 (by decide) (by decide) ?_
  refine g_iloadN X11 K (q := 10) d7_9 rfl rfl ?_
  refine g_iloadN X11 K (q := 11) d7_10 rfl rfl ?_
  refine g_icN X11 K (q := 14) d7_11 (by decide) rfl ?_
  refine g_aloadN X11 K (q := 15) d7_14 rfl rfl rfl ?_
  refine g_iloadN X11 K (q := 16) d7_15 rfl rfl ?_
  refine g_aald X11 K (q := 17) (v := (.ref (ad6 Z a0))) e11 g1 rfl (by decide) rfl d7_16 rfl ?_
  refine g_astore X11 K (q := 19) (L' := #[.val (.ref a1), .val (.ref bx1), .val (.int (6 : Int32)), .val (.int (5 : Int32)), .val (.ref (ad6 Z a0))]) d7_17 rfl rfl rfl ?_
  refine g_aload X11 K (q := 21) d7_19 rfl rfl rfl ?_
  refine g_getf X11 K (q := 24) (w57 H) Via.refl e11 ((f6_symbol H).ext Ol1.2) d7_21 rfl ?_
  intro T12 X12 e12
  refine g_aloadN X12 K (q := 25) d7_24 rfl rfl rfl ?_
  refine g_virtual X12 K (q := 28) (W := 0) (a := (ad12 Z a0)) (w59 H) (w60 H) (nf_self K (w62 H)) (w62 H) (w61 H) (w9 H) (w63 H) (by decide) (rm9_18 l H a1 a2 k1 T1.heap Ol1 ge_1 f1 f2 f3 f4) e12 ((x12 H).ext Ol1.2) rfl (argsL := [(.ref a1)]) (rest := []) (lenOf pd_7 rfl) rfl rfl (Nat.le_of_eq rfl) d7_25 (by decide) (by decide) (by decide) (by decide) rfl ?_
  rintro T13 v13 L13 X13 ⟨rfl, N13q, e13⟩
  have N13 := Fr.app N11 N13q
  show Go p e below _ T13 (mkF m 28 #[.val (.ref a1), .val (.ref bx1), .val (.int (6 : Int32)), .val (.int (5 : Int32)), .val (.ref (ad6 Z a0))] [(.int (0 : Int32))])
  refine g_ifY X13 K (q := 34) d7_28 (by decide) (by decide) (by decide) ?_
  refine g_iinc X13 K (q := 37) (z := (6 : Int32)) (L' := #[.val (.ref a1), .val (.ref bx1), .val (.int (6 : Int32)), .val (.int (6 : Int32)), .val (.ref (ad6 Z a0))]) d7_34 rfl (by decide) rfl rfl ?_
  refine g_goto X13 K (q := 9) d7_37 (by decide) (by decide) ?_
  refine g_iloadN X13 K (q := 10) d7_9 rfl rfl ?_
  refine g_iloadN X13 K (q := 11) d7_10 rfl rfl ?_
  refine g_icY X13 K (q := 40) d7_11 (by decide) (by decide) (by decide) ?_
  refine g_null X13 K (q := 41) d7_40 rfl ?_
  refine g_aret X13 K rfl rfl rfl d7_41 (by decide) (by decide) ?_
  have Kp : Keep h0 T13.heap [] := by rw [e13]; exact Kp1
  exact ⟨rfl, N13, Kp⟩
set_option maxRecDepth 65536 in
set_option maxHeartbeats 40000000 in
theorem rm15_20 (l : Launch) {Z : State} {a0 : Array Value} (H : Hyp Z a0) (p1 : Int32) (h0 : Heap) (Ol : Old Z Z.heap.size h0) (hc_1 : ¬ ((255 : Int32) < p1)) :
    Mt l Z (⟨"java/lang/StringLatin1", "canEncode", "(C)Z"⟩ : MethodName) jdk_43_method_3_code 1 (some .boolean) [] ({ frames := 0, cells := 0, slots := 0, locals := 0 } : Room) #[(.int p1)] h0 (fun v h L => (v = some (.int (1 : Int32)) ∧ Fr Z.heap.size L ∧ h = h0)) := by
  refine g_body (plainFor_of_name pn_java_lang_StringLatin1) ?_
  intro p e s m below meth c T0 K X0 e0
  refine g_entry (ef_8 m p1) ?_
  have Ol0 := Ol
  refine g_iloadN X0 K (q := 1) d15_0 rfl rfl ?_
  refine g_sipush X0 K (q := 4) (v := (255 : Int32)) d15_1 (by decide) rfl ?_
  refine g_icN X0 K (q := 7) d15_4 (flt hc_1).2.2.1 rfl ?_
  refine g_iconst X0 K (q := 8) (v := (1 : Int32)) d15_7 (by decide) rfl ?_
  refine g_goto X0 K (q := 12) d15_8 (by decide) (by decide) ?_
  refine g_nret X0 K (by simp) (z' := (1 : Int32)) (by decide) d15_12 (by decide) (by decide) ?_
  exact ⟨rfl, (Fr.nil _), e0⟩
set_option maxRecDepth 65536 in
set_option maxHeartbeats 40000000 in
theorem rm16_21 (l : Launch) {Z : State} {a0 : Array Value} (H : Hyp Z a0) (p1 : Int32) (h0 : Heap) (Ol : Old Z Z.heap.size h0) :
    Mt l Z (⟨"java/lang/StringLatin1", "toBytes", "(C)[B"⟩ : MethodName) jdk_43_method_46_code 1 (some (.array .byte)) [] ({ frames := 0, cells := 1, slots := 1, locals := 0 } : Room) #[(.int p1)] h0 (fun v h L => (∃ (b1 : Addr), ∃ (kA1 : ClassId), v = some (.ref b1) ∧ Fr Z.heap.size L ∧ Keep h0 h [] ∧ h0.size ≤ b1 ∧ Arv Z h b1 kA1 .byte (1 : Int32) [(.int p1.toInt8.toInt32)] (.int (0 : Int32)))) := by
  refine g_body (plainFor_of_name pn_java_lang_StringLatin1) ?_
  intro p e s m below meth c T0 K X0 e0
  refine g_entry (ef_8 m p1) ?_
  have Ol0 := Ol
  refine g_iconst X0 K (q := 1) (v := (1 : Int32)) d16_0 (by decide) rfl ?_
  refine g_newp X0 K (q := 3) (cap := 1) (ty := .byte) (vs := [(.int (0 : Int32))]) (w22 H) rfl e0 d16_1 (by decide) (by decide) rfl (by decide) (by decide) (by decide) rfl ?_
  intro T1 h1 b1 kA1 X1 e1 E1 z1 A1
  obtain ⟨sz1, ge1, Ol1, Kp1⟩ := ivE Ol0 (Keep.refl h0 []) E1 z1
  have so1 := Sd.one b1
  refine g_dup X1 K (q := 4) d16_3 rfl rfl ?_
  refine g_iconst X1 K (q := 5) (v := (0 : Int32)) d16_4 (by decide) rfl ?_
  refine g_iloadN X1 K (q := 6) d16_5 rfl rfl ?_
  refine g_i2b X1 K (q := 7) d16_6 rfl rfl ?_
  refine g_bast X1 K (q := 8) (z := p1.toInt8.toInt32) (vs' := [(.int p1.toInt8.toInt32)]) e1 A1 (by decide) (Nat.le_of_ble_eq_true rfl) (nar_byte _) rfl d16_7 rfl ?_
  intro T2 h2 X2 e2 W2 F2
  obtain ⟨N2, Ol2, Kp2⟩ := ivW (Fr.nil _) Ol1 Kp1 X2 W2 ge1 (Or.inr sz1)
  refine g_aret X2 K rfl rfl rfl d16_8 (by decide) (by decide) ?_
  have Kp : Keep h0 T2.heap [] := by rw [e2]; exact Kp2
  exact ⟨b1, kA1, rfl, N2, Kp, sz1, (by rw [e2]; exact F2)⟩
set_option maxRecDepth 65536 in
set_option maxHeartbeats 40000000 in
theorem rm17_22 (l : Launch) {Z : State} {a0 : Array Value} (H : Hyp Z a0) (a1 : Addr) (a2 : Addr) (h0 : Heap) (Ol : Old Z Z.heap.size h0) (E_1 : Exa Z h0 a1 "java/lang/String") (F_1 : Fld Z h0 a1 "java/lang/String" "value" "[B" .null) (F_2 : Fld Z h0 a1 "java/lang/String" "coder" "B" (.int (0 : Int32))) (ge_1 : Z.heap.size ≤ a1) :
    Mt l Z (⟨"java/lang/String", "<init>", "([BB)V"⟩ : MethodName) jdk_42_method_151_code 3 none [] ({ frames := 1, cells := 0, slots := 0, locals := 12 } : Room) #[(.ref a1), (.ref a2), (.int (0 : Int32))] h0 (fun v h L => (v = none ∧ Fr Z.heap.size L ∧ Keep h0 h [a1] ∧ Exa Z h a1 "java/lang/String" ∧ Fld Z h a1 "java/lang/String" "value" "[B" (.ref a2) ∧ Fld Z h a1 "java/lang/String" "coder" "B" (.int (0 : Int32)))) := by
  refine g_body (plainFor_of_name pn_java_lang_String) ?_
  intro p e s m below meth c T0 K X0 e0
  refine g_entry (ef_9 m a1 a2) ?_
  have Ol0 := Ol
  refine g_aloadN X0 K (q := 1) d17_0 rfl rfl rfl ?_
  refine g_init X0 K (q := 4) (W := 0) (w18 H) (w19 H) (w20 H) e0 rfl d17_1 (by decide) (Nat.le_of_eq rfl) (by decide) rfl ?_
  intro T1 X1 e1
  refine g_aloadN X1 K (q := 5) d17_4 rfl rfl rfl ?_
  refine g_aloadN X1 K (q := 6) d17_5 rfl rfl rfl ?_
  refine g_putf X1 K (q := 9) (w27 H) Via.refl e1 F_1 E_1 (Or.inr ⟨(w23 H), rfl, rfl⟩) (w8 H) (ty := (.array .byte)) (by decide) rfl rfl d17_6 rfl ?_
  intro T2 h2 X2 e2 W2 F2
  obtain ⟨N2, Ol2, Kp2⟩ := ivW (Fr.nil _) Ol0 (Keep.refl h0 [a1]) X2 W2 ge_1 (Or.inl (List.mem_of_getElem? (i := 0) rfl))
  refine g_aloadN X2 K (q := 10) d17_9 rfl rfl rfl ?_
  refine g_iloadN X2 K (q := 11) d17_10 rfl rfl ?_
  have f1 := (F_2.other W2 (Or.inr (lne (la0 H) (la1 H) (by decide))))
  have f2 := (E_1.wr W2)
  refine g_putf X2 K (q := 14) (w28 H) Via.refl e2 f1 f2 (Or.inr ⟨(w24 H), rfl, rfl⟩) (w8 H) (ty := .byte) (by decide) rfl rfl d17_11 rfl ?_
  intro T3 h3 X3 e3 W3 F3
  obtain ⟨N3, Ol3, Kp3⟩ := ivW N2 Ol2 Kp2 X3 W3 ge_1 (Or.inl (List.mem_of_getElem? (i := 0) rfl))
  refine g_ret X3 K d17_14 (by decide) (by decide) ?_
  have Kp : Keep h0 T3.heap [a1] := by rw [e3]; exact Kp3
  have f3 := (f2.wr W3)
  have f4 := (F2.other W3 (Or.inr (lne (la1 H) (la0 H) (by decide))))
  exact ⟨rfl, N3, Kp, (by rw [e3]; exact f3), (by rw [e3]; exact f4), (by rw [e3]; exact F3)⟩
set_option maxRecDepth 65536 in
set_option maxHeartbeats 40000000 in
theorem rm14_23 (l : Launch) {Z : State} {a0 : Array Value} (H : Hyp Z a0) (p1 : Int32) (h0 : Heap) (Ol : Old Z Z.heap.size h0) (hc_1 : ¬ ((255 : Int32) < p1)) :
    Mt l Z (⟨"java/lang/String", "valueOf", "(C)Ljava/lang/String;"⟩ : MethodName) jdk_42_method_139_code 1 (some (.object "java/lang/String")) [] ({ frames := 2, cells := 2, slots := 5, locals := 27 } : Room) #[(.int p1)] h0 (fun v h L => (∃ (b3 : Addr), ∃ (bx1 : Addr), ∃ (kB1 : ClassId), v = some (.ref b3) ∧ Fr Z.heap.size L ∧ Keep h0 h [] ∧ h0.size ≤ b3 ∧ b3 < bx1 ∧ Exa Z h b3 "java/lang/String" ∧ Fld Z h b3 "java/lang/String" "value" "[B" (.ref bx1) ∧ Fld Z h b3 "java/lang/String" "coder" "B" (.int (0 : Int32)) ∧ Arv Z h bx1 kB1 .byte (1 : Int32) [(.int p1.toInt8.toInt32)] (.int (0 : Int32)))) := by
  refine g_body (plainFor_of_name pn_java_lang_String) ?_
  intro p e s m below meth c T0 K X0 e0
  refine g_entry (ef_8 m p1) ?_
  have Ol0 := Ol
  refine g_gets X0 K (q := 3) (w65 H) e0 ((ivs0 H).ext Ol0.2) d14_0 rfl ?_
  intro T1 X1 e1
  refine g_ifN X1 K (q := 6) d14_3 (feq (ivn0 H)).1 rfl ?_
  refine g_iloadN X1 K (q := 7) d14_6 rfl rfl ?_
  refine g_static X1 K (q := 10) (W := 0) (w83 H) (w84 H) (w68 H) (w85 H) (by decide) (rm15_20 l H p1 h0 Ol0 hc_1) e1 rfl (argsL := [(.int p1)]) (rest := []) (lenOf pd_9 rfl) rfl rfl (Nat.le_of_eq rfl) d14_7 (by decide) (by decide) (by decide) (by decide) rfl ?_
  rintro T2 v2 L2 X2 ⟨rfl, N2q, e2⟩
  have N2 := Fr.app (Fr.nil _) N2q
  show Go p e below _ T2 (mkF m 10 #[.val (.int p1)] [(.int (1 : Int32))])
  refine g_ifN X2 K (q := 13) d14_10 (by decide) rfl ?_
  refine g_new X2 K (q := 16) (w64 H) (w8 H) (w9 H) e2 d14_13 (by decide) (by decide) rfl ?_
  intro T3 h3 b3 X3 e3 E3 z3 A3 D3
  obtain ⟨sz3, ge3, Ol3, Kp3⟩ := ivE Ol0 (Keep.refl h0 []) E3 z3
  have so1 := Sd.one b3
  have F3_value : Fld Z h3 b3 "java/lang/String" "value" "[B" .null := D3 (Or.inr (w23 H)) (ty := (.array .byte)) (by decide)
  have F3_coder : Fld Z h3 b3 "java/lang/String" "coder" "B" (.int (0 : Int32)) := D3 (Or.inr (w24 H)) (ty := .byte) (by decide)
  refine g_dup X3 K (q := 17) d14_16 rfl rfl ?_
  refine g_iloadN X3 K (q := 18) d14_17 rfl rfl ?_
  refine g_static X3 K (q := 21) (W := 2) (w86 H) (w87 H) (w68 H) (w88 H) (by decide) (rm16_21 l H p1 h3 Ol3) e3 rfl (argsL := [(.int p1)]) (rest := [(.ref b3), (.ref b3)]) (lenOf pd_10 rfl) rfl rfl (Nat.le_of_eq rfl) d14_18 (by decide) (by decide) (by decide) (by decide) rfl ?_
  rintro T4 v4 L4 X4 ⟨bx1, kB1, rfl, N4q, Kc4, lz4_0, g1⟩
  have szbx1 := Nat.le_trans Kp3.1 lz4_0
  have gebx1 := Nat.le_trans Ol3.2.1 lz4_0
  have lkbx1 : b3 < bx1 := Nat.lt_of_lt_of_le A3.lt lz4_0
  have so2 := so1.cons lkbx1
  obtain ⟨N4, Ol4, Kp4⟩ := ivK N2 Ol3 Kp3 N4q Kc4 all0 all0
  show Go p e below _ T4 (mkF m 21 #[.val (.int p1)] [(.ref bx1), (.ref b3), (.ref b3)])
  refine g_iconst X4 K (q := 22) (v := (0 : Int32)) d14_21 (by decide) rfl ?_
  have f1 := (A3.keep Kc4)
  have f2 := (F3_value.keep Kc4 nin0)
  have f3 := (F3_coder.keep Kc4 nin0)
  refine g_special X4 K (q := 25) (W := 1) (a := b3) rfl (w89 H) (w90 H) (w9 H) (w91 H) (by decide) (rm17_22 l H b3 bx1 T4.heap Ol4 f1 f2 f3 ge3) rfl rfl (argsL := [(.ref bx1), (.int (0 : Int32))]) (rest := [(.ref b3)]) (lenOf pd_11 rfl) rfl rfl (Nat.le_of_eq rfl) d14_22 (by decide) (by decide) (by decide) (by decide) rfl ?_
  rintro T5 v5 L5 X5 ⟨rfl, N5q, Kc5, g2, g3, g4⟩
  obtain ⟨N5, Ol5, Kp5⟩ := ivK N4 Ol4 Kp4 N5q Kc5 (allS ge3 all0) (kaS (Or.inr sz3) all0)
  show Go p e below _ T5 (mkF m 25 #[.val (.int p1)] [(.ref b3)])
  refine g_aret X5 K rfl rfl rfl d14_25 (by decide) (by decide) ?_
  have f4 := (g1.keep Kc5 (so2.nin 0 [1] rfl rfl rfl))
  exact ⟨b3, bx1, kB1, rfl, N5, Kp5, sz3, lkbx1, g2, g3, g4, f4⟩
set_option maxRecDepth 65536 in
set_option maxHeartbeats 40000000 in
theorem rm2_24 (l : Launch) {Z : State} {a0 : Array Value} (H : Hyp Z a0) (p1 : Int32) (p2 : Int32) (p3 : Int32) (h0 : Heap) (Ol : Old Z Z.heap.size h0) (hc_1 : ¬ ((255 : Int32) < p1)) :
    Mt l Z (⟨"com/example/annotable/annotable/ComparisonOfPinLaw", "make", "(ICCC)Ljava/lang/String;"⟩ : MethodName) method_4_code 4 (some (.object "java/lang/String")) [] ({ frames := 3, cells := 2, slots := 5, locals := 39 } : Room) #[(.int (1 : Int32)), (.int p1), (.int p2), (.int p3)] h0 (fun v h L => (∃ (bx1 : Addr), ∃ (bx2 : Addr), ∃ (kB1 : ClassId), v = some (.ref bx1) ∧ Fr Z.heap.size L ∧ Keep h0 h [] ∧ h0.size ≤ bx1 ∧ bx1 < bx2 ∧ Exa Z h bx1 "java/lang/String" ∧ Fld Z h bx1 "java/lang/String" "value" "[B" (.ref bx2) ∧ Fld Z h bx1 "java/lang/String" "coder" "B" (.int (0 : Int32)) ∧ Arv Z h bx2 kB1 .byte (1 : Int32) [(.int p1.toInt8.toInt32)] (.int (0 : Int32)))) := by
  refine g_body (plainFor_of_name pn_com_example_annotable_annotable_ComparisonOfPinLaw) ?_
  intro p e s m below meth c T0 K X0 e0
  refine g_entry (ef_10 m p1 p2 p3) ?_
  have Ol0 := Ol
  refine g_iloadN X0 K (q := 1) d2_0 rfl rfl ?_
  refine g_ifY X0 K (q := 15) d2_1 (by decide) (by decide) (by decide) ?_
  refine g_iloadN X0 K (q := 16) d2_15 rfl rfl ?_
  refine g_iconst X0 K (q := 17) (v := (1 : Int32)) d2_16 (by decide) rfl ?_
  refine g_icN X0 K (q := 20) d2_17 (by decide) rfl ?_
  refine g_iloadN X0 K (q := 21) d2_20 rfl rfl ?_
  refine g_static X0 K (q := 24) (W := 0) (w80 H) (w81 H) (w9 H) (w82 H) (by decide) (rm14_23 l H p1 h0 Ol0 hc_1) e0 rfl (argsL := [(.int p1)]) (rest := []) (lenOf pd_12 rfl) rfl rfl (Nat.le_of_eq rfl) d2_21 (by decide) (by decide) (by decide) (by decide) rfl ?_
  rintro T1 v1 L1 X1 ⟨bx1, bx2, kB1, rfl, N1q, Kc1, lz1_0, lz1_1, g1, g2, g3, g4⟩
  have szbx1 := Nat.le_trans (Keep.refl h0 []).1 lz1_0
  have gebx1 := Nat.le_trans Ol0.2.1 lz1_0
  have so1 := Sd.one bx1
  have szbx2 := Nat.le_trans szbx1 (Nat.le_of_lt lz1_1)
  have gebx2 := Nat.le_trans gebx1 (Nat.le_of_lt lz1_1)
  have so2 := so1.cons lz1_1
  obtain ⟨N1, Ol1, Kp1⟩ := ivK (Fr.nil _) Ol0 (Keep.refl h0 []) N1q Kc1 all0 all0
  show Go p e below _ T1 (mkF m 24 #[.val (.int (1 : Int32)), .val (.int p1), .val (.int p2), .val (.int p3)] [(.ref bx1)])
  refine g_aret X1 K rfl rfl rfl d2_24 (by decide) (by decide) ?_
  exact ⟨bx1, bx2, kB1, rfl, N1, Kp1, szbx1, lz1_1, g1, g2, g3, g4⟩
set_option maxRecDepth 65536 in
set_option maxHeartbeats 40000000 in
theorem rm6_25 (l : Launch) {Z : State} {a0 : Array Value} (H : Hyp Z a0) (p1 : Int32) (p2 : Int32) (h0 : Heap) (Ol : Old Z Z.heap.size h0) :
    Mt l Z (⟨"com/example/annotable/annotable/ComparisonOfPinLaw", "expected", "(ICC)Lcom/example/annotable/annotable/PathQuery$Comparison;"⟩ : MethodName) method_5_code 3 (some (.object "com/example/annotable/annotable/PathQuery$Comparison")) [] ({ frames := 0, cells := 0, slots := 0, locals := 0 } : Room) #[(.int (1 : Int32)), (.int p1), (.int p2)] h0 (fun v h L => (p1 = (61 : Int32) ∧ v = some (.ref (ad1 Z a0)) ∧ Fr Z.heap.size L ∧ h = h0) ∨ (¬ (p1 = (61 : Int32)) ∧ p1 = (60 : Int32) ∧ v = some (.ref (ad3 Z a0)) ∧ Fr Z.heap.size L ∧ h = h0) ∨ (¬ (p1 = (61 : Int32)) ∧ ¬ (p1 = (60 : Int32)) ∧ p1 = (62 : Int32) ∧ v = some (.ref (ad5 Z a0)) ∧ Fr Z.heap.size L ∧ h = h0) ∨ (¬ (p1 = (61 : Int32)) ∧ ¬ (p1 = (60 : Int32)) ∧ ¬ (p1 = (62 : Int32)) ∧ v = some .null ∧ Fr Z.heap.size L ∧ h = h0)) := by
  refine g_body (plainFor_of_name pn_com_example_annotable_annotable_ComparisonOfPinLaw) ?_
  intro p e s m below meth c T0 K X0 e0
  refine g_entry (ef_11 m p1 p2) ?_
  have Ol0 := Ol
  refine g_iloadN X0 K (q := 1) d6_0 rfl rfl ?_
  refine g_iconst X0 K (q := 2) (v := (1 : Int32)) d6_1 (by decide) rfl ?_
  refine g_icN X0 K (q := 5) d6_2 (by decide) rfl ?_
  refine g_iloadN X0 K (q := 6) d6_5 rfl rfl ?_
  refine g_bipush X0 K (q := 8) (v := (61 : Int32)) d6_6 (by decide) rfl ?_
  by_cases hc1 : p1 = (61 : Int32)
  · refine g_icN X0 K (q := 11) d6_8 (teq hc1).2 rfl ?_
    refine g_gets X0 K (q := 14) (w95 H) e0 ((s1 H).ext Ol0.2) d6_11 rfl ?_
    intro T1 X1 e1
    refine g_aret X1 K rfl rfl rfl d6_14 (by decide) (by decide) ?_
    exact Or.inl (⟨hc1, rfl, (Fr.nil _), e1⟩)
  · refine g_icY X0 K (q := 15) d6_8 (feq hc1).2 (by decide) (by decide) ?_
    refine g_iloadN X0 K (q := 16) d6_15 rfl rfl ?_
    refine g_bipush X0 K (q := 18) (v := (60 : Int32)) d6_16 (by decide) rfl ?_
    by_cases hc2 : p1 = (60 : Int32)
    · refine g_icN X0 K (q := 21) d6_18 (teq hc2).2 rfl ?_
      refine g_gets X0 K (q := 24) (w94 H) e0 ((s3 H).ext Ol0.2) d6_21 rfl ?_
      intro T2 X2 e2
      refine g_aret X2 K rfl rfl rfl d6_24 (by decide) (by decide) ?_
      exact Or.inr (Or.inl (⟨hc1, hc2, rfl, (Fr.nil _), e2⟩))
    · refine g_icY X0 K (q := 25) d6_18 (feq hc2).2 (by decide) (by decide) ?_
      refine g_iloadN X0 K (q := 26) d6_25 rfl rfl ?_
      refine g_bipush X0 K (q := 28) (v := (62 : Int32)) d6_26 (by decide) rfl ?_
      by_cases hc3 : p1 = (62 : Int32)
      · refine g_icN X0 K (q := 31) d6_28 (teq hc3).2 rfl ?_
        refine g_gets X0 K (q := 34) (w92 H) e0 ((s5 H).ext Ol0.2) d6_31 rfl ?_
        intro T3 X3 e3
        refine g_aret X3 K rfl rfl rfl d6_34 (by decide) (by decide) ?_
        exact Or.inr (Or.inr (Or.inl (⟨hc1, hc2, hc3, rfl, (Fr.nil _), e3⟩)))
      · refine g_icY X0 K (q := 35) d6_28 (feq hc3).2 (by decide) (by decide) ?_
        refine g_null X0 K (q := 36) d6_35 rfl ?_
        refine g_aret X0 K rfl rfl rfl d6_36 (by decide) (by decide) ?_
        exact Or.inr (Or.inr (Or.inr (⟨hc1, hc2, hc3, rfl, (Fr.nil _), e0⟩)))
set_option maxRecDepth 65536 in
set_option maxHeartbeats 40000000 in
theorem rm10_26 (l : Launch) {Z : State} {a0 : Array Value} (H : Hyp Z a0) (a1 : Addr) (p1 : Int32) (k1 : ClassId) (h0 : Heap) (Ol : Old Z Z.heap.size h0) (A_1 : Arv Z h0 a1 k1 .byte (1 : Int32) [(.int p1)] (.int (0 : Int32))) (hc_1 : (61 : Int32) = p1) :
    Mt l Z (⟨"java/lang/StringLatin1", "equals", "([B[B)Z"⟩ : MethodName) jdk_43_method_13_code 3 (some .boolean) [] ({ frames := 0, cells := 0, slots := 0, locals := 0 } : Room) #[(.ref (ad13 Z a0)), (.ref a1)] h0 (fun v h L => (v = some (.int (1 : Int32)) ∧ Fr Z.heap.size L ∧ h = h0)) := by
  refine g_body (plainFor_of_name pn_java_lang_StringLatin1) ?_
  intro p e s m below meth c T0 K X0 e0
  refine g_entry (ef_6 m (ad13 Z a0) a1) ?_
  have Ol0 := Ol
  refine g_aloadN X0 K (q := 1) d10_0 rfl rfl rfl ?_
  refine g_len X0 K (q := 2) e0 ((v13 H).ext Ol0.2) d10_1 rfl ?_
  refine g_aloadN X0 K (q := 3) d10_2 rfl rfl rfl ?_
  refine g_len X0 K (q := 4) e0 A_1 d10_3 rfl ?_
  refine g_icN X0 K (q := 7) d10_4 (by decide) rfl ?_
  refine g_iconst X0 K (q := 8) (v := (0 : Int32)) d10_7 (by decide) rfl ?_
  refine g_istoreN X0 K (q := 9) (L' := #[.val (.ref (ad13 Z a0)), .val (.ref a1), .val (.int (0 : Int32))]) d10_8 rfl rfl ?_
  refine g_iloadN X0 K (q := 10) d10_9 rfl rfl ?_
  refine g_aloadN X0 K (q := 11) d10_10 rfl rfl rfl ?_
  refine g_len X0 K (q := 12) e0 ((v13 H).ext Ol0.2) d10_11 rfl ?_
  refine g_icN X0 K (q := 15) d10_12 (by decide) rfl ?_
  refine g_aloadN X0 K (q := 16) d10_15 rfl rfl rfl ?_
  refine g_iloadN X0 K (q := 17) d10_16 rfl rfl ?_
  refine g_bald X0 K (q := 18) (v := (.int (61 : Int32))) e0 ((v13 H).ext Ol0.2) (by decide) rfl d10_17 rfl ?_
  refine g_aloadN X0 K (q := 19) d10_18 rfl rfl rfl ?_
  refine g_iloadN X0 K (q := 20) d10_19 rfl rfl ?_
  refine g_bald X0 K (q := 21) (v := (.int p1)) e0 A_1 (by decide) rfl d10_20 rfl ?_
  refine g_icY X0 K (q := 26) d10_21 (teq hc_1).1 (by decide) (by decide) ?_
  refine g_iinc X0 K (q := 29) (z := (1 : Int32)) (L' := #[.val (.ref (ad13 Z a0)), .val (.ref a1), .val (.int (1 : Int32))]) d10_26 rfl (by decide) rfl rfl ?_
  refine g_goto X0 K (q := 9) d10_29 (by decide) (by decide) ?_
  refine g_iloadN X0 K (q := 10) d10_9 rfl rfl ?_
  refine g_aloadN X0 K (q := 11) d10_10 rfl rfl rfl ?_
  refine g_len X0 K (q := 12) e0 ((v13 H).ext Ol0.2) d10_11 rfl ?_
  refine g_icY X0 K (q := 32) d10_12 (by decide) (by decide) (by decide) ?_
  refine g_iconst X0 K (q := 33) (v := (1 : Int32)) d10_32 (by decide) rfl ?_
  refine g_nret X0 K (by simp) (z' := (1 : Int32)) (by decide) d10_33 (by decide) (by decide) ?_
  exact ⟨rfl, (Fr.nil _), e0⟩
set_option maxRecDepth 65536 in
set_option maxHeartbeats 40000000 in
theorem rm9_27 (l : Launch) {Z : State} {a0 : Array Value} (H : Hyp Z a0) (a1 : Addr) (a2 : Addr) (p1 : Int32) (k1 : ClassId) (h0 : Heap) (Ol : Old Z Z.heap.size h0) (ge_1 : Z.heap.size ≤ a1) (E_1 : Exa Z h0 a1 "java/lang/String") (F_1 : Fld Z h0 a1 "java/lang/String" "coder" "B" (.int (0 : Int32))) (F_2 : Fld Z h0 a1 "java/lang/String" "value" "[B" (.ref a2)) (A_1 : Arv Z h0 a2 k1 .byte (1 : Int32) [(.int p1)] (.int (0 : Int32))) (hc_1 : (61 : Int32) = p1) :
    Mt l Z (⟨"java/lang/String", "equals", "(Ljava/lang/Object;)Z"⟩ : MethodName) jdk_42_method_66_code 3 (some .boolean) [] ({ frames := 1, cells := 0, slots := 0, locals := 14 } : Room) #[(.ref (ad7 Z a0)), (.ref a1)] h0 (fun v h L => (v = some (.int (1 : Int32)) ∧ Fr Z.heap.size L ∧ h = h0)) := by
  refine g_body (plainFor_of_name pn_java_lang_String) ?_
  intro p e s m below meth c T0 K X0 e0
  refine g_entry (ef_6 m (ad7 Z a0) a1) ?_
  have Ol0 := Ol
  refine g_aloadN X0 K (q := 1) d9_0 rfl rfl rfl ?_
  refine g_aloadN X0 K (q := 2) d9_1 rfl rfl rfl ?_
  have ne1 : (ad7 Z a0) ≠ a1 := (Nat.ne_of_lt (Nat.lt_of_lt_of_le (f7_value H).lt ge_1))
  refine g_ac X0 K (q := 7) (same := false) d9_2 rfl rfl (decide_eq_false fun q => ne1 (Value.ref.inj q)) (by decide) (by decide) ?_
  refine g_aloadN X0 K (q := 8) d9_7 rfl rfl rfl ?_
  refine g_instY X0 K (q := 11) (w64 H) e0 (Ins.self E_1) d9_8 rfl ?_
  intro T1 X1 e1
  refine g_ifN X1 K (q := 14) d9_11 (by decide) rfl ?_
  refine g_aloadN X1 K (q := 15) d9_14 rfl rfl rfl ?_
  refine g_cast X1 K (q := 18) (w64 H) e1 (Ins.self E_1) d9_15 rfl ?_
  intro T2 X2 e2
  refine g_astoreN X2 K (q := 19) (L' := #[.val (.ref (ad7 Z a0)), .val (.ref a1), .val (.ref a1)]) d9_18 rfl rfl rfl ?_
  refine g_gets X2 K (q := 22) (w65 H) e2 ((ivs0 H).ext Ol0.2) d9_19 rfl ?_
  intro T3 X3 e3
  refine g_ifN X3 K (q := 25) d9_22 (feq (ivn0 H)).1 rfl ?_
  refine g_aloadN X3 K (q := 26) d9_25 rfl rfl rfl ?_
  refine g_getf X3 K (q := 29) (w28 H) Via.refl e3 ((f7_coder H).ext Ol0.2) d9_26 rfl ?_
  intro T4 X4 e4
  refine g_aloadN X4 K (q := 30) d9_29 rfl rfl rfl ?_
  refine g_getf X4 K (q := 33) (w28 H) Via.refl e4 F_1 d9_30 rfl ?_
  intro T5 X5 e5
  refine g_icN X5 K (q := 36) d9_33 (by decide) rfl ?_
  refine g_aloadN X5 K (q := 37) d9_36 rfl rfl rfl ?_
  refine g_getf X5 K (q := 40) (w27 H) Via.refl e5 ((f7_value H).ext Ol0.2) d9_37 rfl ?_
  intro T6 X6 e6
  refine g_aloadN X6 K (q := 41) d9_40 rfl rfl rfl ?_
  refine g_getf X6 K (q := 44) (w27 H) Via.refl e6 F_2 d9_41 rfl ?_
  intro T7 X7 e7
  refine g_static X7 K (q := 47) (W := 0) (w66 H) (w67 H) (w68 H) (w69 H) (by decide) (rm10_26 l H a2 p1 k1 h0 Ol0 A_1 hc_1) e7 rfl (argsL := [(.ref (ad13 Z a0)), (.ref a2)]) (rest := []) (lenOf pd_6 rfl) rfl rfl (Nat.le_of_eq rfl) d9_44 (by decide) (by decide) (by decide) (by decide) rfl ?_
  rintro T8 v8 L8 X8 ⟨rfl, N8q, e8⟩
  have N8 := Fr.app (Fr.nil _) N8q
  show Go p e below _ T8 (mkF m 47 #[.val (.ref (ad7 Z a0)), .val (.ref a1), .val (.ref a1)] [(.int (1 : Int32))])
  refine g_ifN X8 K (q := 50) d9_47 (by decide) rfl ?_
  refine g_iconst X8 K (q := 51) (v := (1 : Int32)) d9_50 (by decide) rfl ?_
  refine g_goto X8 K (q := 55) d9_51 (by decide) (by decide) ?_
  refine g_nret X8 K (by simp) (z' := (1 : Int32)) (by decide) d9_55 (by decide) (by decide) ?_
  exact ⟨rfl, N8, e8⟩
set_option maxRecDepth 65536 in
set_option maxHeartbeats 40000000 in
theorem rm7_28 (l : Launch) {Z : State} {a0 : Array Value} (H : Hyp Z a0) (a1 : Addr) (a2 : Addr) (p1 : Int32) (k1 : ClassId) (h0 : Heap) (Ol : Old Z Z.heap.size h0) (F_1 : Fld Z h0 a1 "java/lang/String" "coder" "B" (.int (0 : Int32))) (F_2 : Fld Z h0 a1 "java/lang/String" "value" "[B" (.ref a2)) (A_1 : Arv Z h0 a2 k1 .byte (1 : Int32) [(.int p1)] (.int (0 : Int32))) (hc_1 : (61 : Int32) = p1) (ge_1 : Z.heap.size ≤ a1) (E_1 : Exa Z h0 a1 "java/lang/String") :
    Mt l Z (⟨"com/example/annotable/annotable/PathQuery$Comparison", "of", "(Ljava/lang/String;)Lcom/example/annotable/annotable/PathQuery$Comparison;"⟩ : MethodName) prog_16_method_6_code 5 (some (.object "com/example/annotable/annotable/PathQuery$Comparison")) [] ({ frames := 2, cells := 1, slots := 6, locals := 28 } : Room) #[(.ref a1)] h0 (fun v h L => (v = some (.ref (ad1 Z a0)) ∧ Fr Z.heap.size L ∧ Keep h0 h [])) := by
  refine g_body (plainFor_of_name pn_com_example_annotable_annotable_PathQuery_Comparison) ?_
  intro p e s m below meth c T0 K X0 e0
  refine g_entry (ef_7 m a1) ?_
  have nw_a1 : a1 ∉ [] := nin0
  have nw_a2 : a2 ∉ [] := nin0
  have Ol0 := Ol
  refine g_static X0 K (q := 3) (W := 0) (w36 H) (w37 H) (w34 H) (w38 H) (by decide) (rm8_6 l H h0 Ol0) e0 rfl (argsL := []) (rest := []) (lenOf pd_5 rfl) rfl rfl (Nat.le_of_eq rfl) d7_0 (by decide) (by decide) (by decide) (by decide) rfl ?_
  rintro T1 v1 L1 X1 ⟨bx1, rfl, N1q, Kc1, lz1_0, g1, g2⟩
  have szbx1 := Nat.le_trans (Keep.refl h0 []).1 lz1_0
  have gebx1 := Nat.le_trans Ol0.2.1 lz1_0
  have so1 := Sd.one bx1
  obtain ⟨N1, Ol1, Kp1⟩ := ivK (Fr.nil _) Ol0 (Keep.refl h0 []) N1q Kc1 all0 all0
  show Go p e below _ T1 (mkF m 3 #[.val (.ref a1), .unset, .unset, .unset, .unset] [(.ref bx1)])
  refine g_astoreN X1 K (q := 4) (L' := #[.val (.ref a1), .val (.ref bx1), .unset, .unset, .unset]) d7_3 rfl rfl rfl ?_
  refine g_aloadN X1 K (q := 5) d7_4 rfl rfl rfl ?_
  refine g_len X1 K (q := 6) rfl g1 d7_5 rfl ?_
  refine g_istoreN X1 K (q := 7) (L' := #[.val (.ref a1), .val (.ref bx1), .val (.int (6 : Int32)), .unset, .unset]) d7_6 rfl rfl ?_
  refine g_iconst X1 K (q := 8) (v := (0 : Int32)) d7_7 (by decide) rfl ?_
  refine g_istoreN X1 K (q := 9) (L' := #[.val (.ref a1), .val (.ref bx1), .val (.int (6 : Int32)), .val (.int (0 : Int32)), .unset]) d7_8 rfl rfl ?_
  refine g_iloadN X1 K (q := 10) d7_9 rfl rfl ?_
  refine g_iloadN X1 K (q := 11) d7_10 rfl rfl ?_
  refine g_icN X1 K (q := 14) d7_11 (by decide) rfl ?_
  refine g_aloadN X1 K (q := 15) d7_14 rfl rfl rfl ?_
  refine g_iloadN X1 K (q := 16) d7_15 rfl rfl ?_
  refine g_aald X1 K (q := 17) (v := (.ref (ad1 Z a0))) rfl g1 rfl (by decide) rfl d7_16 rfl ?_
  refine g_astore X1 K (q := 19) (L' := #[.val (.ref a1), .val (.ref bx1), .val (.int (6 : Int32)), .val (.int (0 : Int32)), .val (.ref (ad1 Z a0))]) d7_17 rfl rfl rfl ?_
  refine g_aload X1 K (q := 21) d7_19 rfl rfl rfl ?_
  refine g_getf X1 K (q := 24) (w57 H) Via.refl rfl ((f1_symbol H).ext Ol1.2) d7_21 rfl ?_
  intro T2 X2 e2
  refine g_aloadN X2 K (q := 25) d7_24 rfl rfl rfl ?_
  have f1 := E_1.keep Kp1
  have f2 := F_1.keep Kp1 nw_a1
  have f3 := F_2.keep Kp1 nw_a1
  have f4 := A_1.keep Kp1 nw_a2
  refine g_virtual X2 K (q := 28) (W := 0) (a := (ad7 Z a0)) (w59 H) (w60 H) (nf_self K (w62 H)) (w62 H) (w61 H) (w9 H) (w63 H) (by decide) (rm9_27 l H a1 a2 p1 k1 T1.heap Ol1 ge_1 f1 f2 f3 f4 hc_1) e2 ((x7 H).ext Ol1.2) rfl (argsL := [(.ref a1)]) (rest := []) (lenOf pd_7 rfl) rfl rfl (Nat.le_of_eq rfl) d7_25 (by decide) (by decide) (by decide) (by decide) rfl ?_
  rintro T3 v3 L3 X3 ⟨rfl, N3q, e3⟩
  have N3 := Fr.app N1 N3q
  show Go p e below _ T3 (mkF m 28 #[.val (.ref a1), .val (.ref bx1), .val (.int (6 : Int32)), .val (.int (0 : Int32)), .val (.ref (ad1 Z a0))] [(.int (1 : Int32))])
  refine g_ifN X3 K (q := 31) d7_28 (by decide) rfl ?_
  refine g_aload X3 K (q := 33) d7_31 rfl rfl rfl ?_
  refine g_aret X3 K rfl rfl rfl d7_33 (by decide) (by decide) ?_
  have Kp : Keep h0 T3.heap [] := by rw [e3]; exact Kp1
  exact ⟨rfl, N3, Kp⟩
set_option maxRecDepth 65536 in
set_option maxHeartbeats 40000000 in
theorem rm10_29 (l : Launch) {Z : State} {a0 : Array Value} (H : Hyp Z a0) (a1 : Addr) (p1 : Int32) (k1 : ClassId) (h0 : Heap) (Ol : Old Z Z.heap.size h0) (A_1 : Arv Z h0 a1 k1 .byte (1 : Int32) [(.int p1)] (.int (0 : Int32))) (hc_1 : ¬ ((61 : Int32) = p1)) :
    Mt l Z (⟨"java/lang/StringLatin1", "equals", "([B[B)Z"⟩ : MethodName) jdk_43_method_13_code 3 (some .boolean) [] ({ frames := 0, cells := 0, slots := 0, locals := 0 } : Room) #[(.ref (ad13 Z a0)), (.ref a1)] h0 (fun v h L => (v = some (.int (0 : Int32)) ∧ Fr Z.heap.size L ∧ h = h0)) := by
  refine g_body (plainFor_of_name pn_java_lang_StringLatin1) ?_
  intro p e s m below meth c T0 K X0 e0
  refine g_entry (ef_6 m (ad13 Z a0) a1) ?_
  have Ol0 := Ol
  refine g_aloadN X0 K (q := 1) d10_0 rfl rfl rfl ?_
  refine g_len X0 K (q := 2) e0 ((v13 H).ext Ol0.2) d10_1 rfl ?_
  refine g_aloadN X0 K (q := 3) d10_2 rfl rfl rfl ?_
  refine g_len X0 K (q := 4) e0 A_1 d10_3 rfl ?_
  refine g_icN X0 K (q := 7) d10_4 (by decide) rfl ?_
  refine g_iconst X0 K (q := 8) (v := (0 : Int32)) d10_7 (by decide) rfl ?_
  refine g_istoreN X0 K (q := 9) (L' := #[.val (.ref (ad13 Z a0)), .val (.ref a1), .val (.int (0 : Int32))]) d10_8 rfl rfl ?_
  refine g_iloadN X0 K (q := 10) d10_9 rfl rfl ?_
  refine g_aloadN X0 K (q := 11) d10_10 rfl rfl rfl ?_
  refine g_len X0 K (q := 12) e0 ((v13 H).ext Ol0.2) d10_11 rfl ?_
  refine g_icN X0 K (q := 15) d10_12 (by decide) rfl ?_
  refine g_aloadN X0 K (q := 16) d10_15 rfl rfl rfl ?_
  refine g_iloadN X0 K (q := 17) d10_16 rfl rfl ?_
  refine g_bald X0 K (q := 18) (v := (.int (61 : Int32))) e0 ((v13 H).ext Ol0.2) (by decide) rfl d10_17 rfl ?_
  refine g_aloadN X0 K (q := 19) d10_18 rfl rfl rfl ?_
  refine g_iloadN X0 K (q := 20) d10_19 rfl rfl ?_
  refine g_bald X0 K (q := 21) (v := (.int p1)) e0 A_1 (by decide) rfl d10_20 rfl ?_
  refine g_icN X0 K (q := 24) d10_21 (feq hc_1).1 rfl ?_
  refine g_iconst X0 K (q := 25) (v := (0 : Int32)) d10_24 (by decide) rfl ?_
  refine g_nret X0 K (by simp) (z' := (0 : Int32)) (by decide) d10_25 (by decide) (by decide) ?_
  exact ⟨rfl, (Fr.nil _), e0⟩
set_option maxRecDepth 65536 in
set_option maxHeartbeats 40000000 in
theorem rm9_30 (l : Launch) {Z : State} {a0 : Array Value} (H : Hyp Z a0) (a1 : Addr) (a2 : Addr) (p1 : Int32) (k1 : ClassId) (h0 : Heap) (Ol : Old Z Z.heap.size h0) (ge_1 : Z.heap.size ≤ a1) (E_1 : Exa Z h0 a1 "java/lang/String") (F_1 : Fld Z h0 a1 "java/lang/String" "coder" "B" (.int (0 : Int32))) (F_2 : Fld Z h0 a1 "java/lang/String" "value" "[B" (.ref a2)) (A_1 : Arv Z h0 a2 k1 .byte (1 : Int32) [(.int p1)] (.int (0 : Int32))) (hc_1 : ¬ ((61 : Int32) = p1)) :
    Mt l Z (⟨"java/lang/String", "equals", "(Ljava/lang/Object;)Z"⟩ : MethodName) jdk_42_method_66_code 3 (some .boolean) [] ({ frames := 1, cells := 0, slots := 0, locals := 14 } : Room) #[(.ref (ad7 Z a0)), (.ref a1)] h0 (fun v h L => (v = some (.int (0 : Int32)) ∧ Fr Z.heap.size L ∧ h = h0)) := by
  refine g_body (plainFor_of_name pn_java_lang_String) ?_
  intro p e s m below meth c T0 K X0 e0
  refine g_entry (ef_6 m (ad7 Z a0) a1) ?_
  have Ol0 := Ol
  refine g_aloadN X0 K (q := 1) d9_0 rfl rfl rfl ?_
  refine g_aloadN X0 K (q := 2) d9_1 rfl rfl rfl ?_
  have ne1 : (ad7 Z a0) ≠ a1 := (Nat.ne_of_lt (Nat.lt_of_lt_of_le (f7_value H).lt ge_1))
  refine g_ac X0 K (q := 7) (same := false) d9_2 rfl rfl (decide_eq_false fun q => ne1 (Value.ref.inj q)) (by decide) (by decide) ?_
  refine g_aloadN X0 K (q := 8) d9_7 rfl rfl rfl ?_
  refine g_instY X0 K (q := 11) (w64 H) e0 (Ins.self E_1) d9_8 rfl ?_
  intro T1 X1 e1
  refine g_ifN X1 K (q := 14) d9_11 (by decide) rfl ?_
  refine g_aloadN X1 K (q := 15) d9_14 rfl rfl rfl ?_
  refine g_cast X1 K (q := 18) (w64 H) e1 (Ins.self E_1) d9_15 rfl ?_
  intro T2 X2 e2
  refine g_astoreN X2 K (q := 19) (L' := #[.val (.ref (ad7 Z a0)), .val (.ref a1), .val (.ref a1)]) d9_18 rfl rfl rfl ?_
  refine g_gets X2 K (q := 22) (w65 H) e2 ((ivs0 H).ext Ol0.2) d9_19 rfl ?_
  intro T3 X3 e3
  refine g_ifN X3 K (q := 25) d9_22 (feq (ivn0 H)).1 rfl ?_
  refine g_aloadN X3 K (q := 26) d9_25 rfl rfl rfl ?_
  refine g_getf X3 K (q := 29) (w28 H) Via.refl e3 ((f7_coder H).ext Ol0.2) d9_26 rfl ?_
  intro T4 X4 e4
  refine g_aloadN X4 K (q := 30) d9_29 rfl rfl rfl ?_
  refine g_getf X4 K (q := 33) (w28 H) Via.refl e4 F_1 d9_30 rfl ?_
  intro T5 X5 e5
  refine g_icN X5 K (q := 36) d9_33 (by decide) rfl ?_
  refine g_aloadN X5 K (q := 37) d9_36 rfl rfl rfl ?_
  refine g_getf X5 K (q := 40) (w27 H) Via.refl e5 ((f7_value H).ext Ol0.2) d9_37 rfl ?_
  intro T6 X6 e6
  refine g_aloadN X6 K (q := 41) d9_40 rfl rfl rfl ?_
  refine g_getf X6 K (q := 44) (w27 H) Via.refl e6 F_2 d9_41 rfl ?_
  intro T7 X7 e7
  refine g_static X7 K (q := 47) (W := 0) (w66 H) (w67 H) (w68 H) (w69 H) (by decide) (rm10_29 l H a2 p1 k1 h0 Ol0 A_1 hc_1) e7 rfl (argsL := [(.ref (ad13 Z a0)), (.ref a2)]) (rest := []) (lenOf pd_6 rfl) rfl rfl (Nat.le_of_eq rfl) d9_44 (by decide) (by decide) (by decide) (by decide) rfl ?_
  rintro T8 v8 L8 X8 ⟨rfl, N8q, e8⟩
  have N8 := Fr.app (Fr.nil _) N8q
  show Go p e below _ T8 (mkF m 47 #[.val (.ref (ad7 Z a0)), .val (.ref a1), .val (.ref a1)] [(.int (0 : Int32))])
  refine g_ifY X8 K (q := 54) d9_47 (by decide) (by decide) (by decide) ?_
  refine g_iconst X8 K (q := 55) (v := (0 : Int32)) d9_54 (by decide) rfl ?_
  refine g_nret X8 K (by simp) (z' := (0 : Int32)) (by decide) d9_55 (by decide) (by decide) ?_
  exact ⟨rfl, N8, e8⟩
set_option maxRecDepth 65536 in
set_option maxHeartbeats 40000000 in
theorem rm10_31 (l : Launch) {Z : State} {a0 : Array Value} (H : Hyp Z a0) (a1 : Addr) (p1 : Int32) (k1 : ClassId) (h0 : Heap) (Ol : Old Z Z.heap.size h0) (A_1 : Arv Z h0 a1 k1 .byte (1 : Int32) [(.int p1)] (.int (0 : Int32))) :
    Mt l Z (⟨"java/lang/StringLatin1", "equals", "([B[B)Z"⟩ : MethodName) jdk_43_method_13_code 3 (some .boolean) [] ({ frames := 0, cells := 0, slots := 0, locals := 0 } : Room) #[(.ref (ad14 Z a0)), (.ref a1)] h0 (fun v h L => (v = some (.int (0 : Int32)) ∧ Fr Z.heap.size L ∧ h = h0)) := by
  refine g_body (plainFor_of_name pn_java_lang_StringLatin1) ?_
  intro p e s m below meth c T0 K X0 e0
  refine g_entry (ef_6 m (ad14 Z a0) a1) ?_
  have Ol0 := Ol
  refine g_aloadN X0 K (q := 1) d10_0 rfl rfl rfl ?_
  refine g_len X0 K (q := 2) e0 ((v14 H).ext Ol0.2) d10_1 rfl ?_
  refine g_aloadN X0 K (q := 3) d10_2 rfl rfl rfl ?_
  refine g_len X0 K (q := 4) e0 A_1 d10_3 rfl ?_
  refine g_icY X0 K (q := 34) d10_4 (by decide) (by decide) (by decide) ?_
  refine g_iconst X0 K (q := 35) (v := (0 : Int32)) d10_34 (by decide) rfl ?_
  refine g_nret X0 K (by simp) (z' := (0 : Int32)) (by decide) d10_35 (by decide) (by decide) ?_
  exact ⟨rfl, (Fr.nil _), e0⟩
set_option maxRecDepth 65536 in
set_option maxHeartbeats 40000000 in
theorem rm9_32 (l : Launch) {Z : State} {a0 : Array Value} (H : Hyp Z a0) (a1 : Addr) (a2 : Addr) (p1 : Int32) (k1 : ClassId) (h0 : Heap) (Ol : Old Z Z.heap.size h0) (ge_1 : Z.heap.size ≤ a1) (E_1 : Exa Z h0 a1 "java/lang/String") (F_1 : Fld Z h0 a1 "java/lang/String" "coder" "B" (.int (0 : Int32))) (F_2 : Fld Z h0 a1 "java/lang/String" "value" "[B" (.ref a2)) (A_1 : Arv Z h0 a2 k1 .byte (1 : Int32) [(.int p1)] (.int (0 : Int32))) :
    Mt l Z (⟨"java/lang/String", "equals", "(Ljava/lang/Object;)Z"⟩ : MethodName) jdk_42_method_66_code 3 (some .boolean) [] ({ frames := 1, cells := 0, slots := 0, locals := 14 } : Room) #[(.ref (ad8 Z a0)), (.ref a1)] h0 (fun v h L => (v = some (.int (0 : Int32)) ∧ Fr Z.heap.size L ∧ h = h0)) := by
  refine g_body (plainFor_of_name pn_java_lang_String) ?_
  intro p e s m below meth c T0 K X0 e0
  refine g_entry (ef_6 m (ad8 Z a0) a1) ?_
  have Ol0 := Ol
  refine g_aloadN X0 K (q := 1) d9_0 rfl rfl rfl ?_
  refine g_aloadN X0 K (q := 2) d9_1 rfl rfl rfl ?_
  have ne1 : (ad8 Z a0) ≠ a1 := (Nat.ne_of_lt (Nat.lt_of_lt_of_le (f8_value H).lt ge_1))
  refine g_ac X0 K (q := 7) (same := false) d9_2 rfl rfl (decide_eq_false fun q => ne1 (Value.ref.inj q)) (by decide) (by decide) ?_
  refine g_aloadN X0 K (q := 8) d9_7 rfl rfl rfl ?_
  refine g_instY X0 K (q := 11) (w64 H) e0 (Ins.self E_1) d9_8 rfl ?_
  intro T1 X1 e1
  refine g_ifN X1 K (q := 14) d9_11 (by decide) rfl ?_
  refine g_aloadN X1 K (q := 15) d9_14 rfl rfl rfl ?_
  refine g_cast X1 K (q := 18) (w64 H) e1 (Ins.self E_1) d9_15 rfl ?_
  intro T2 X2 e2
  refine g_astoreN X2 K (q := 19) (L' := #[.val (.ref (ad8 Z a0)), .val (.ref a1), .val (.ref a1)]) d9_18 rfl rfl rfl ?_
  refine g_gets X2 K (q := 22) (w65 H) e2 ((ivs0 H).ext Ol0.2) d9_19 rfl ?_
  intro T3 X3 e3
  refine g_ifN X3 K (q := 25) d9_22 (feq (ivn0 H)).1 rfl ?_
  refine g_aloadN X3 K (q := 26) d9_25 rfl rfl rfl ?_
  refine g_getf X3 K (q := 29) (w28 H) Via.refl e3 ((f8_coder H).ext Ol0.2) d9_26 rfl ?_
  intro T4 X4 e4
  refine g_aloadN X4 K (q := 30) d9_29 rfl rfl rfl ?_
  refine g_getf X4 K (q := 33) (w28 H) Via.refl e4 F_1 d9_30 rfl ?_
  intro T5 X5 e5
  refine g_icN X5 K (q := 36) d9_33 (by decide) rfl ?_
  refine g_aloadN X5 K (q := 37) d9_36 rfl rfl rfl ?_
  refine g_getf X5 K (q := 40) (w27 H) Via.refl e5 ((f8_value H).ext Ol0.2) d9_37 rfl ?_
  intro T6 X6 e6
  refine g_aloadN X6 K (q := 41) d9_40 rfl rfl rfl ?_
  refine g_getf X6 K (q := 44) (w27 H) Via.refl e6 F_2 d9_41 rfl ?_
  intro T7 X7 e7
  refine g_static X7 K (q := 47) (W := 0) (w66 H) (w67 H) (w68 H) (w69 H) (by decide) (rm10_31 l H a2 p1 k1 h0 Ol0 A_1) e7 rfl (argsL := [(.ref (ad14 Z a0)), (.ref a2)]) (rest := []) (lenOf pd_6 rfl) rfl rfl (Nat.le_of_eq rfl) d9_44 (by decide) (by decide) (by decide) (by decide) rfl ?_
  rintro T8 v8 L8 X8 ⟨rfl, N8q, e8⟩
  have N8 := Fr.app (Fr.nil _) N8q
  show Go p e below _ T8 (mkF m 47 #[.val (.ref (ad8 Z a0)), .val (.ref a1), .val (.ref a1)] [(.int (0 : Int32))])
  refine g_ifY X8 K (q := 54) d9_47 (by decide) (by decide) (by decide) ?_
  refine g_iconst X8 K (q := 55) (v := (0 : Int32)) d9_54 (by decide) rfl ?_
  refine g_nret X8 K (by simp) (z' := (0 : Int32)) (by decide) d9_55 (by decide) (by decide) ?_
  exact ⟨rfl, N8, e8⟩
set_option maxRecDepth 65536 in
set_option maxHeartbeats 40000000 in
theorem rm10_33 (l : Launch) {Z : State} {a0 : Array Value} (H : Hyp Z a0) (a1 : Addr) (p1 : Int32) (k1 : ClassId) (h0 : Heap) (Ol : Old Z Z.heap.size h0) (A_1 : Arv Z h0 a1 k1 .byte (1 : Int32) [(.int p1)] (.int (0 : Int32))) (hc_1 : (60 : Int32) = p1) :
    Mt l Z (⟨"java/lang/StringLatin1", "equals", "([B[B)Z"⟩ : MethodName) jdk_43_method_13_code 3 (some .boolean) [] ({ frames := 0, cells := 0, slots := 0, locals := 0 } : Room) #[(.ref (ad15 Z a0)), (.ref a1)] h0 (fun v h L => (v = some (.int (1 : Int32)) ∧ Fr Z.heap.size L ∧ h = h0)) := by
  refine g_body (plainFor_of_name pn_java_lang_StringLatin1) ?_
  intro p e s m below meth c T0 K X0 e0
  refine g_entry (ef_6 m (ad15 Z a0) a1) ?_
  have Ol0 := Ol
  refine g_aloadN X0 K (q := 1) d10_0 rfl rfl rfl ?_
  refine g_len X0 K (q := 2) e0 ((v15 H).ext Ol0.2) d10_1 rfl ?_
  refine g_aloadN X0 K (q := 3) d10_2 rfl rfl rfl ?_
  refine g_len X0 K (q := 4) e0 A_1 d10_3 rfl ?_
  refine g_icN X0 K (q := 7) d10_4 (by decide) rfl ?_
  refine g_iconst X0 K (q := 8) (v := (0 : Int32)) d10_7 (by decide) rfl ?_
  refine g_istoreN X0 K (q := 9) (L' := #[.val (.ref (ad15 Z a0)), .val (.ref a1), .val (.int (0 : Int32))]) d10_8 rfl rfl ?_
  refine g_iloadN X0 K (q := 10) d10_9 rfl rfl ?_
  refine g_aloadN X0 K (q := 11) d10_10 rfl rfl rfl ?_
  refine g_len X0 K (q := 12) e0 ((v15 H).ext Ol0.2) d10_11 rfl ?_
  refine g_icN X0 K (q := 15) d10_12 (by decide) rfl ?_
  refine g_aloadN X0 K (q := 16) d10_15 rfl rfl rfl ?_
  refine g_iloadN X0 K (q := 17) d10_16 rfl rfl ?_
  refine g_bald X0 K (q := 18) (v := (.int (60 : Int32))) e0 ((v15 H).ext Ol0.2) (by decide) rfl d10_17 rfl ?_
  refine g_aloadN X0 K (q := 19) d10_18 rfl rfl rfl ?_
  refine g_iloadN X0 K (q := 20) d10_19 rfl rfl ?_
  refine g_bald X0 K (q := 21) (v := (.int p1)) e0 A_1 (by decide) rfl d10_20 rfl ?_
  refine g_icY X0 K (q := 26) d10_21 (teq hc_1).1 (by decide) (by decide) ?_
  refine g_iinc X0 K (q := 29) (z := (1 : Int32)) (L' := #[.val (.ref (ad15 Z a0)), .val (.ref a1), .val (.int (1 : Int32))]) d10_26 rfl (by decide) rfl rfl ?_
  refine g_goto X0 K (q := 9) d10_29 (by decide) (by decide) ?_
  refine g_iloadN X0 K (q := 10) d10_9 rfl rfl ?_
  refine g_aloadN X0 K (q := 11) d10_10 rfl rfl rfl ?_
  refine g_len X0 K (q := 12) e0 ((v15 H).ext Ol0.2) d10_11 rfl ?_
  refine g_icY X0 K (q := 32) d10_12 (by decide) (by decide) (by decide) ?_
  refine g_iconst X0 K (q := 33) (v := (1 : Int32)) d10_32 (by decide) rfl ?_
  refine g_nret X0 K (by simp) (z' := (1 : Int32)) (by decide) d10_33 (by decide) (by decide) ?_
  exact ⟨rfl, (Fr.nil _), e0⟩
set_option maxRecDepth 65536 in
set_option maxHeartbeats 40000000 in
theorem rm9_34 (l : Launch) {Z : State} {a0 : Array Value} (H : Hyp Z a0) (a1 : Addr) (a2 : Addr) (p1 : Int32) (k1 : ClassId) (h0 : Heap) (Ol : Old Z Z.heap.size h0) (ge_1 : Z.heap.size ≤ a1) (E_1 : Exa Z h0 a1 "java/lang/String") (F_1 : Fld Z h0 a1 "java/lang/String" "coder" "B" (.int (0 : Int32))) (F_2 : Fld Z h0 a1 "java/lang/String" "value" "[B" (.ref a2)) (A_1 : Arv Z h0 a2 k1 .byte (1 : Int32) [(.int p1)] (.int (0 : Int32))) (hc_1 : (60 : Int32) = p1) :
    Mt l Z (⟨"java/lang/String", "equals", "(Ljava/lang/Object;)Z"⟩ : MethodName) jdk_42_method_66_code 3 (some .boolean) [] ({ frames := 1, cells := 0, slots := 0, locals := 14 } : Room) #[(.ref (ad9 Z a0)), (.ref a1)] h0 (fun v h L => (v = some (.int (1 : Int32)) ∧ Fr Z.heap.size L ∧ h = h0)) := by
  refine g_body (plainFor_of_name pn_java_lang_String) ?_
  intro p e s m below meth c T0 K X0 e0
  refine g_entry (ef_6 m (ad9 Z a0) a1) ?_
  have Ol0 := Ol
  refine g_aloadN X0 K (q := 1) d9_0 rfl rfl rfl ?_
  refine g_aloadN X0 K (q := 2) d9_1 rfl rfl rfl ?_
  have ne1 : (ad9 Z a0) ≠ a1 := (Nat.ne_of_lt (Nat.lt_of_lt_of_le (f9_value H).lt ge_1))
  refine g_ac X0 K (q := 7) (same := false) d9_2 rfl rfl (decide_eq_false fun q => ne1 (Value.ref.inj q)) (by decide) (by decide) ?_
  refine g_aloadN X0 K (q := 8) d9_7 rfl rfl rfl ?_
  refine g_instY X0 K (q := 11) (w64 H) e0 (Ins.self E_1) d9_8 rfl ?_
  intro T1 X1 e1
  refine g_ifN X1 K (q := 14) d9_11 (by decide) rfl ?_
  refine g_aloadN X1 K (q := 15) d9_14 rfl rfl rfl ?_
  refine g_cast X1 K (q := 18) (w64 H) e1 (Ins.self E_1) d9_15 rfl ?_
  intro T2 X2 e2
  refine g_astoreN X2 K (q := 19) (L' := #[.val (.ref (ad9 Z a0)), .val (.ref a1), .val (.ref a1)]) d9_18 rfl rfl rfl ?_
  refine g_gets X2 K (q := 22) (w65 H) e2 ((ivs0 H).ext Ol0.2) d9_19 rfl ?_
  intro T3 X3 e3
  refine g_ifN X3 K (q := 25) d9_22 (feq (ivn0 H)).1 rfl ?_
  refine g_aloadN X3 K (q := 26) d9_25 rfl rfl rfl ?_
  refine g_getf X3 K (q := 29) (w28 H) Via.refl e3 ((f9_coder H).ext Ol0.2) d9_26 rfl ?_
  intro T4 X4 e4
  refine g_aloadN X4 K (q := 30) d9_29 rfl rfl rfl ?_
  refine g_getf X4 K (q := 33) (w28 H) Via.refl e4 F_1 d9_30 rfl ?_
  intro T5 X5 e5
  refine g_icN X5 K (q := 36) d9_33 (by decide) rfl ?_
  refine g_aloadN X5 K (q := 37) d9_36 rfl rfl rfl ?_
  refine g_getf X5 K (q := 40) (w27 H) Via.refl e5 ((f9_value H).ext Ol0.2) d9_37 rfl ?_
  intro T6 X6 e6
  refine g_aloadN X6 K (q := 41) d9_40 rfl rfl rfl ?_
  refine g_getf X6 K (q := 44) (w27 H) Via.refl e6 F_2 d9_41 rfl ?_
  intro T7 X7 e7
  refine g_static X7 K (q := 47) (W := 0) (w66 H) (w67 H) (w68 H) (w69 H) (by decide) (rm10_33 l H a2 p1 k1 h0 Ol0 A_1 hc_1) e7 rfl (argsL := [(.ref (ad15 Z a0)), (.ref a2)]) (rest := []) (lenOf pd_6 rfl) rfl rfl (Nat.le_of_eq rfl) d9_44 (by decide) (by decide) (by decide) (by decide) rfl ?_
  rintro T8 v8 L8 X8 ⟨rfl, N8q, e8⟩
  have N8 := Fr.app (Fr.nil _) N8q
  show Go p e below _ T8 (mkF m 47 #[.val (.ref (ad9 Z a0)), .val (.ref a1), .val (.ref a1)] [(.int (1 : Int32))])
  refine g_ifN X8 K (q := 50) d9_47 (by decide) rfl ?_
  refine g_iconst X8 K (q := 51) (v := (1 : Int32)) d9_50 (by decide) rfl ?_
  refine g_goto X8 K (q := 55) d9_51 (by decide) (by decide) ?_
  refine g_nret X8 K (by simp) (z' := (1 : Int32)) (by decide) d9_55 (by decide) (by decide) ?_
  exact ⟨rfl, N8, e8⟩
set_option maxRecDepth 65536 in
set_option maxHeartbeats 40000000 in
theorem rm7_35 (l : Launch) {Z : State} {a0 : Array Value} (H : Hyp Z a0) (a1 : Addr) (a2 : Addr) (p1 : Int32) (k1 : ClassId) (h0 : Heap) (Ol : Old Z Z.heap.size h0) (F_1 : Fld Z h0 a1 "java/lang/String" "coder" "B" (.int (0 : Int32))) (F_2 : Fld Z h0 a1 "java/lang/String" "value" "[B" (.ref a2)) (A_1 : Arv Z h0 a2 k1 .byte (1 : Int32) [(.int p1)] (.int (0 : Int32))) (hc_1 : ¬ ((61 : Int32) = p1)) (ge_1 : Z.heap.size ≤ a1) (E_1 : Exa Z h0 a1 "java/lang/String") (hc_2 : (60 : Int32) = p1) :
    Mt l Z (⟨"com/example/annotable/annotable/PathQuery$Comparison", "of", "(Ljava/lang/String;)Lcom/example/annotable/annotable/PathQuery$Comparison;"⟩ : MethodName) prog_16_method_6_code 5 (some (.object "com/example/annotable/annotable/PathQuery$Comparison")) [] ({ frames := 2, cells := 1, slots := 6, locals := 28 } : Room) #[(.ref a1)] h0 (fun v h L => (v = some (.ref (ad3 Z a0)) ∧ Fr Z.heap.size L ∧ Keep h0 h [])) := by
  refine g_body (plainFor_of_name pn_com_example_annotable_annotable_PathQuery_Comparison) ?_
  intro p e s m below meth c T0 K X0 e0
  refine g_entry (ef_7 m a1) ?_
  have nw_a1 : a1 ∉ [] := nin0
  have nw_a2 : a2 ∉ [] := nin0
  have Ol0 := Ol
  refine g_static X0 K (q := 3) (W := 0) (w36 H) (w37 H) (w34 H) (w38 H) (by decide) (rm8_6 l H h0 Ol0) e0 rfl (argsL := []) (rest := []) (lenOf pd_5 rfl) rfl rfl (Nat.le_of_eq rfl) d7_0 (by decide) (by decide) (by decide) (by decide) rfl ?_
  rintro T1 v1 L1 X1 ⟨bx1, rfl, N1q, Kc1, lz1_0, g1, g2⟩
  have szbx1 := Nat.le_trans (Keep.refl h0 []).1 lz1_0
  have gebx1 := Nat.le_trans Ol0.2.1 lz1_0
  have so1 := Sd.one bx1
  obtain ⟨N1, Ol1, Kp1⟩ := ivK (Fr.nil _) Ol0 (Keep.refl h0 []) N1q Kc1 all0 all0
  show Go p e below _ T1 (mkF m 3 #[.val (.ref a1), .unset, .unset, .unset, .unset] [(.ref bx1)])
  refine g_astoreN X1 K (q := 4) (L' := #[.val (.ref a1), .val (.ref bx1), .unset, .unset, .unset]) d7_3 rfl rfl rfl ?_
  refine g_aloadN X1 K (q := 5) d7_4 rfl rfl rfl ?_
  refine g_len X1 K (q := 6) rfl g1 d7_5 rfl ?_
  refine g_istoreN X1 K (q := 7) (L' := #[.val (.ref a1), .val (.ref bx1), .val (.int (6 : Int32)), .unset, .unset]) d7_6 rfl rfl ?_
  refine g_iconst X1 K (q := 8) (v := (0 : Int32)) d7_7 (by decide) rfl ?_
  refine g_istoreN X1 K (q := 9) (L' := #[.val (.ref a1), .val (.ref bx1), .val (.int (6 : Int32)), .val (.int (0 : Int32)), .unset]) d7_8 rfl rfl ?_
  refine g_iloadN X1 K (q := 10) d7_9 rfl rfl ?_
  refine g_iloadN X1 K (q := 11) d7_10 rfl rfl ?_
  refine g_icN X1 K (q := 14) d7_11 (by decide) rfl ?_
  refine g_aloadN X1 K (q := 15) d7_14 rfl rfl rfl ?_
  refine g_iloadN X1 K (q := 16) d7_15 rfl rfl ?_
  refine g_aald X1 K (q := 17) (v := (.ref (ad1 Z a0))) rfl g1 rfl (by decide) rfl d7_16 rfl ?_
  refine g_astore X1 K (q := 19) (L' := #[.val (.ref a1), .val (.ref bx1), .val (.int (6 : Int32)), .val (.int (0 : Int32)), .val (.ref (ad1 Z a0))]) d7_17 rfl rfl rfl ?_
  refine g_aload X1 K (q := 21) d7_19 rfl rfl rfl ?_
  refine g_getf X1 K (q := 24) (w57 H) Via.refl rfl ((f1_symbol H).ext Ol1.2) d7_21 rfl ?_
  intro T2 X2 e2
  refine g_aloadN X2 K (q := 25) d7_24 rfl rfl rfl ?_
  have f1 := E_1.keep Kp1
  have f2 := F_1.keep Kp1 nw_a1
  have f3 := F_2.keep Kp1 nw_a1
  have f4 := A_1.keep Kp1 nw_a2
  refine g_virtual X2 K (q := 28) (W := 0) (a := (ad7 Z a0)) (w59 H) (w60 H) (nf_self K (w62 H)) (w62 H) (w61 H) (w9 H) (w63 H) (by decide) (rm9_30 l H a1 a2 p1 k1 T1.heap Ol1 ge_1 f1 f2 f3 f4 hc_1) e2 ((x7 H).ext Ol1.2) rfl (argsL := [(.ref a1)]) (rest := []) (lenOf pd_7 rfl) rfl rfl (Nat.le_of_eq rfl) d7_25 (by decide) (by decide) (by decide) (by decide) rfl ?_
  rintro T3 v3 L3 X3 ⟨rfl, N3q, e3⟩
  have N3 := Fr.app N1 N3q
  show Go p e below _ T3 (mkF m 28 #[.val (.ref a1), .val (.ref bx1), .val (.int (6 : Int32)), .val (.int (0 : Int32)), .val (.ref (ad1 Z a0))] [(.int (0 : Int32))])
  refine g_ifY X3 K (q := 34) d7_28 (by decide) (by decide) (by decide) ?_
  refine g_iinc X3 K (q := 37) (z := (1 : Int32)) (L' := #[.val (.ref a1), .val (.ref bx1), .val (.int (6 : Int32)), .val (.int (1 : Int32)), .val (.ref (ad1 Z a0))]) d7_34 rfl (by decide) rfl rfl ?_
  refine g_goto X3 K (q := 9) d7_37 (by decide) (by decide) ?_
  refine g_iloadN X3 K (q := 10) d7_9 rfl rfl ?_
  refine g_iloadN X3 K (q := 11) d7_10 rfl rfl ?_
  refine g_icN X3 K (q := 14) d7_11 (by decide) rfl ?_
  refine g_aloadN X3 K (q := 15) d7_14 rfl rfl rfl ?_
  refine g_iloadN X3 K (q := 16) d7_15 rfl rfl ?_
  refine g_aald X3 K (q := 17) (v := (.ref (ad2 Z a0))) e3 g1 rfl (by decide) rfl d7_16 rfl ?_
  refine g_astore X3 K (q := 19) (L' := #[.val (.ref a1), .val (.ref bx1), .val (.int (6 : Int32)), .val (.int (1 : Int32)), .val (.ref (ad2 Z a0))]) d7_17 rfl rfl rfl ?_
  refine g_aload X3 K (q := 21) d7_19 rfl rfl rfl ?_
  refine g_getf X3 K (q := 24) (w57 H) Via.refl e3 ((f2_symbol H).ext Ol1.2) d7_21 rfl ?_
  intro T4 X4 e4
  refine g_aloadN X4 K (q := 25) d7_24 rfl rfl rfl ?_
  refine g_virtual X4 K (q := 28) (W := 0) (a := (ad8 Z a0)) (w59 H) (w60 H) (nf_self K (w62 H)) (w62 H) (w61 H) (w9 H) (w63 H) (by decide) (rm9_32 l H a1 a2 p1 k1 T1.heap Ol1 ge_1 f1 f2 f3 f4) e4 ((x8 H).ext Ol1.2) rfl (argsL := [(.ref a1)]) (rest := []) (lenOf pd_7 rfl) rfl rfl (Nat.le_of_eq rfl) d7_25 (by decide) (by decide) (by decide) (by decide) rfl ?_
  rintro T5 v5 L5 X5 ⟨rfl, N5q, e5⟩
  have N5 := Fr.app N3 N5q
  show Go p e below _ T5 (mkF m 28 #[.val (.ref a1), .val (.ref bx1), .val (.int (6 : Int32)), .val (.int (1 : Int32)), .val (.ref (ad2 Z a0))] [(.int (0 : Int32))])
  refine g_ifY X5 K (q := 34) d7_28 (by decide) (by decide) (by decide) ?_
  refine g_iinc X5 K (q := 37) (z := (2 : Int32)) (L' := #[.val (.ref a1), .val (.ref bx1), .val (.int (6 : Int32)), .val (.int (2 : Int32)), .val (.ref (ad2 Z a0))]) d7_34 rfl (by decide) rfl rfl ?_
  refine g_goto X5 K (q := 9) d7_37 (by decide) (by decide) ?_
  refine g_iloadN X5 K (q := 10) d7_9 rfl rfl ?_
  refine g_iloadN X5 K (q := 11) d7_10 rfl rfl ?_
  refine g_icN X5 K (q := 14) d7_11 (by decide) rfl ?_
  refine g_aloadN X5 K (q := 15) d7_14 rfl rfl rfl ?_
  refine g_iloadN X5 K (q := 16) d7_15 rfl rfl ?_
  refine g_aald X5 K (q := 17) (v := (.ref (ad3 Z a0))) e5 g1 rfl (by decide) rfl d7_16 rfl ?_
  refine g_astore X5 K (q := 19) (L' := #[.val (.ref a1), .val (.ref bx1), .val (.int (6 : Int32)), .val (.int (2 : Int32)), .val (.ref (ad3 Z a0))]) d7_17 rfl rfl rfl ?_
  refine g_aload X5 K (q := 21) d7_19 rfl rfl rfl ?_
  refine g_getf X5 K (q := 24) (w57 H) Via.refl e5 ((f3_symbol H).ext Ol1.2) d7_21 rfl ?_
  intro T6 X6 e6
  refine g_aloadN X6 K (q := 25) d7_24 rfl rfl rfl ?_
  refine g_virtual X6 K (q := 28) (W := 0) (a := (ad9 Z a0)) (w59 H) (w60 H) (nf_self K (w62 H)) (w62 H) (w61 H) (w9 H) (w63 H) (by decide) (rm9_34 l H a1 a2 p1 k1 T1.heap Ol1 ge_1 f1 f2 f3 f4 hc_2) e6 ((x9 H).ext Ol1.2) rfl (argsL := [(.ref a1)]) (rest := []) (lenOf pd_7 rfl) rfl rfl (Nat.le_of_eq rfl) d7_25 (by decide) (by decide) (by decide) (by decide) rfl ?_
  rintro T7 v7 L7 X7 ⟨rfl, N7q, e7⟩
  have N7 := Fr.app N5 N7q
  show Go p e below _ T7 (mkF m 28 #[.val (.ref a1), .val (.ref bx1), .val (.int (6 : Int32)), .val (.int (2 : Int32)), .val (.ref (ad3 Z a0))] [(.int (1 : Int32))])
  refine g_ifN X7 K (q := 31) d7_28 (by decide) rfl ?_
  refine g_aload X7 K (q := 33) d7_31 rfl rfl rfl ?_
  refine g_aret X7 K rfl rfl rfl d7_33 (by decide) (by decide) ?_
  have Kp : Keep h0 T7.heap [] := by rw [e7]; exact Kp1
  exact ⟨rfl, N7, Kp⟩
set_option maxRecDepth 65536 in
set_option maxHeartbeats 40000000 in
theorem rm10_36 (l : Launch) {Z : State} {a0 : Array Value} (H : Hyp Z a0) (a1 : Addr) (p1 : Int32) (k1 : ClassId) (h0 : Heap) (Ol : Old Z Z.heap.size h0) (A_1 : Arv Z h0 a1 k1 .byte (1 : Int32) [(.int p1)] (.int (0 : Int32))) (hc_1 : ¬ ((60 : Int32) = p1)) :
    Mt l Z (⟨"java/lang/StringLatin1", "equals", "([B[B)Z"⟩ : MethodName) jdk_43_method_13_code 3 (some .boolean) [] ({ frames := 0, cells := 0, slots := 0, locals := 0 } : Room) #[(.ref (ad15 Z a0)), (.ref a1)] h0 (fun v h L => (v = some (.int (0 : Int32)) ∧ Fr Z.heap.size L ∧ h = h0)) := by
  refine g_body (plainFor_of_name pn_java_lang_StringLatin1) ?_
  intro p e s m below meth c T0 K X0 e0
  refine g_entry (ef_6 m (ad15 Z a0) a1) ?_
  have Ol0 := Ol
  refine g_aloadN X0 K (q := 1) d10_0 rfl rfl rfl ?_
  refine g_len X0 K (q := 2) e0 ((v15 H).ext Ol0.2) d10_1 rfl ?_
  refine g_aloadN X0 K (q := 3) d10_2 rfl rfl rfl ?_
  refine g_len X0 K (q := 4) e0 A_1 d10_3 rfl ?_
  refine g_icN X0 K (q := 7) d10_4 (by decide) rfl ?_
  refine g_iconst X0 K (q := 8) (v := (0 : Int32)) d10_7 (by decide) rfl ?_
  refine g_istoreN X0 K (q := 9) (L' := #[.val (.ref (ad15 Z a0)), .val (.ref a1), .val (.int (0 : Int32))]) d10_8 rfl rfl ?_
  refine g_iloadN X0 K (q := 10) d10_9 rfl rfl ?_
  refine g_aloadN X0 K (q := 11) d10_10 rfl rfl rfl ?_
  refine g_len X0 K (q := 12) e0 ((v15 H).ext Ol0.2) d10_11 rfl ?_
  refine g_icN X0 K (q := 15) d10_12 (by decide) rfl ?_
  refine g_aloadN X0 K (q := 16) d10_15 rfl rfl rfl ?_
  refine g_iloadN X0 K (q := 17) d10_16 rfl rfl ?_
  refine g_bald X0 K (q := 18) (v := (.int (60 : Int32))) e0 ((v15 H).ext Ol0.2) (by decide) rfl d10_17 rfl ?_
  refine g_aloadN X0 K (q := 19) d10_18 rfl rfl rfl ?_
  refine g_iloadN X0 K (q := 20) d10_19 rfl rfl ?_
  refine g_bald X0 K (q := 21) (v := (.int p1)) e0 A_1 (by decide) rfl d10_20 rfl ?_
  refine g_icN X0 K (q := 24) d10_21 (feq hc_1).1 rfl ?_
  refine g_iconst X0 K (q := 25) (v := (0 : Int32)) d10_24 (by decide) rfl ?_
  refine g_nret X0 K (by simp) (z' := (0 : Int32)) (by decide) d10_25 (by decide) (by decide) ?_
  exact ⟨rfl, (Fr.nil _), e0⟩
set_option maxRecDepth 65536 in
set_option maxHeartbeats 40000000 in
theorem rm9_37 (l : Launch) {Z : State} {a0 : Array Value} (H : Hyp Z a0) (a1 : Addr) (a2 : Addr) (p1 : Int32) (k1 : ClassId) (h0 : Heap) (Ol : Old Z Z.heap.size h0) (ge_1 : Z.heap.size ≤ a1) (E_1 : Exa Z h0 a1 "java/lang/String") (F_1 : Fld Z h0 a1 "java/lang/String" "coder" "B" (.int (0 : Int32))) (F_2 : Fld Z h0 a1 "java/lang/String" "value" "[B" (.ref a2)) (A_1 : Arv Z h0 a2 k1 .byte (1 : Int32) [(.int p1)] (.int (0 : Int32))) (hc_1 : ¬ ((60 : Int32) = p1)) :
    Mt l Z (⟨"java/lang/String", "equals", "(Ljava/lang/Object;)Z"⟩ : MethodName) jdk_42_method_66_code 3 (some .boolean) [] ({ frames := 1, cells := 0, slots := 0, locals := 14 } : Room) #[(.ref (ad9 Z a0)), (.ref a1)] h0 (fun v h L => (v = some (.int (0 : Int32)) ∧ Fr Z.heap.size L ∧ h = h0)) := by
  refine g_body (plainFor_of_name pn_java_lang_String) ?_
  intro p e s m below meth c T0 K X0 e0
  refine g_entry (ef_6 m (ad9 Z a0) a1) ?_
  have Ol0 := Ol
  refine g_aloadN X0 K (q := 1) d9_0 rfl rfl rfl ?_
  refine g_aloadN X0 K (q := 2) d9_1 rfl rfl rfl ?_
  have ne1 : (ad9 Z a0) ≠ a1 := (Nat.ne_of_lt (Nat.lt_of_lt_of_le (f9_value H).lt ge_1))
  refine g_ac X0 K (q := 7) (same := false) d9_2 rfl rfl (decide_eq_false fun q => ne1 (Value.ref.inj q)) (by decide) (by decide) ?_
  refine g_aloadN X0 K (q := 8) d9_7 rfl rfl rfl ?_
  refine g_instY X0 K (q := 11) (w64 H) e0 (Ins.self E_1) d9_8 rfl ?_
  intro T1 X1 e1
  refine g_ifN X1 K (q := 14) d9_11 (by decide) rfl ?_
  refine g_aloadN X1 K (q := 15) d9_14 rfl rfl rfl ?_
  refine g_cast X1 K (q := 18) (w64 H) e1 (Ins.self E_1) d9_15 rfl ?_
  intro T2 X2 e2
  refine g_astoreN X2 K (q := 19) (L' := #[.val (.ref (ad9 Z a0)), .val (.ref a1), .val (.ref a1)]) d9_18 rfl rfl rfl ?_
  refine g_gets X2 K (q := 22) (w65 H) e2 ((ivs0 H).ext Ol0.2) d9_19 rfl ?_
  intro T3 X3 e3
  refine g_ifN X3 K (q := 25) d9_22 (feq (ivn0 H)).1 rfl ?_
  refine g_aloadN X3 K (q := 26) d9_25 rfl rfl rfl ?_
  refine g_getf X3 K (q := 29) (w28 H) Via.refl e3 ((f9_coder H).ext Ol0.2) d9_26 rfl ?_
  intro T4 X4 e4
  refine g_aloadN X4 K (q := 30) d9_29 rfl rfl rfl ?_
  refine g_getf X4 K (q := 33) (w28 H) Via.refl e4 F_1 d9_30 rfl ?_
  intro T5 X5 e5
  refine g_icN X5 K (q := 36) d9_33 (by decide) rfl ?_
  refine g_aloadN X5 K (q := 37) d9_36 rfl rfl rfl ?_
  refine g_getf X5 K (q := 40) (w27 H) Via.refl e5 ((f9_value H).ext Ol0.2) d9_37 rfl ?_
  intro T6 X6 e6
  refine g_aloadN X6 K (q := 41) d9_40 rfl rfl rfl ?_
  refine g_getf X6 K (q := 44) (w27 H) Via.refl e6 F_2 d9_41 rfl ?_
  intro T7 X7 e7
  refine g_static X7 K (q := 47) (W := 0) (w66 H) (w67 H) (w68 H) (w69 H) (by decide) (rm10_36 l H a2 p1 k1 h0 Ol0 A_1 hc_1) e7 rfl (argsL := [(.ref (ad15 Z a0)), (.ref a2)]) (rest := []) (lenOf pd_6 rfl) rfl rfl (Nat.le_of_eq rfl) d9_44 (by decide) (by decide) (by decide) (by decide) rfl ?_
  rintro T8 v8 L8 X8 ⟨rfl, N8q, e8⟩
  have N8 := Fr.app (Fr.nil _) N8q
  show Go p e below _ T8 (mkF m 47 #[.val (.ref (ad9 Z a0)), .val (.ref a1), .val (.ref a1)] [(.int (0 : Int32))])
  refine g_ifY X8 K (q := 54) d9_47 (by decide) (by decide) (by decide) ?_
  refine g_iconst X8 K (q := 55) (v := (0 : Int32)) d9_54 (by decide) rfl ?_
  refine g_nret X8 K (by simp) (z' := (0 : Int32)) (by decide) d9_55 (by decide) (by decide) ?_
  exact ⟨rfl, N8, e8⟩
set_option maxRecDepth 65536 in
set_option maxHeartbeats 40000000 in
theorem rm10_38 (l : Launch) {Z : State} {a0 : Array Value} (H : Hyp Z a0) (a1 : Addr) (p1 : Int32) (k1 : ClassId) (h0 : Heap) (Ol : Old Z Z.heap.size h0) (A_1 : Arv Z h0 a1 k1 .byte (1 : Int32) [(.int p1)] (.int (0 : Int32))) :
    Mt l Z (⟨"java/lang/StringLatin1", "equals", "([B[B)Z"⟩ : MethodName) jdk_43_method_13_code 3 (some .boolean) [] ({ frames := 0, cells := 0, slots := 0, locals := 0 } : Room) #[(.ref (ad16 Z a0)), (.ref a1)] h0 (fun v h L => (v = some (.int (0 : Int32)) ∧ Fr Z.heap.size L ∧ h = h0)) := by
  refine g_body (plainFor_of_name pn_java_lang_StringLatin1) ?_
  intro p e s m below meth c T0 K X0 e0
  refine g_entry (ef_6 m (ad16 Z a0) a1) ?_
  have Ol0 := Ol
  refine g_aloadN X0 K (q := 1) d10_0 rfl rfl rfl ?_
  refine g_len X0 K (q := 2) e0 ((v16 H).ext Ol0.2) d10_1 rfl ?_
  refine g_aloadN X0 K (q := 3) d10_2 rfl rfl rfl ?_
  refine g_len X0 K (q := 4) e0 A_1 d10_3 rfl ?_
  refine g_icY X0 K (q := 34) d10_4 (by decide) (by decide) (by decide) ?_
  refine g_iconst X0 K (q := 35) (v := (0 : Int32)) d10_34 (by decide) rfl ?_
  refine g_nret X0 K (by simp) (z' := (0 : Int32)) (by decide) d10_35 (by decide) (by decide) ?_
  exact ⟨rfl, (Fr.nil _), e0⟩
set_option maxRecDepth 65536 in
set_option maxHeartbeats 40000000 in
theorem rm9_39 (l : Launch) {Z : State} {a0 : Array Value} (H : Hyp Z a0) (a1 : Addr) (a2 : Addr) (p1 : Int32) (k1 : ClassId) (h0 : Heap) (Ol : Old Z Z.heap.size h0) (ge_1 : Z.heap.size ≤ a1) (E_1 : Exa Z h0 a1 "java/lang/String") (F_1 : Fld Z h0 a1 "java/lang/String" "coder" "B" (.int (0 : Int32))) (F_2 : Fld Z h0 a1 "java/lang/String" "value" "[B" (.ref a2)) (A_1 : Arv Z h0 a2 k1 .byte (1 : Int32) [(.int p1)] (.int (0 : Int32))) :
    Mt l Z (⟨"java/lang/String", "equals", "(Ljava/lang/Object;)Z"⟩ : MethodName) jdk_42_method_66_code 3 (some .boolean) [] ({ frames := 1, cells := 0, slots := 0, locals := 14 } : Room) #[(.ref (ad10 Z a0)), (.ref a1)] h0 (fun v h L => (v = some (.int (0 : Int32)) ∧ Fr Z.heap.size L ∧ h = h0)) := by
  refine g_body (plainFor_of_name pn_java_lang_String) ?_
  intro p e s m below meth c T0 K X0 e0
  refine g_entry (ef_6 m (ad10 Z a0) a1) ?_
  have Ol0 := Ol
  refine g_aloadN X0 K (q := 1) d9_0 rfl rfl rfl ?_
  refine g_aloadN X0 K (q := 2) d9_1 rfl rfl rfl ?_
  have ne1 : (ad10 Z a0) ≠ a1 := (Nat.ne_of_lt (Nat.lt_of_lt_of_le (f10_value H).lt ge_1))
  refine g_ac X0 K (q := 7) (same := false) d9_2 rfl rfl (decide_eq_false fun q => ne1 (Value.ref.inj q)) (by decide) (by decide) ?_
  refine g_aloadN X0 K (q := 8) d9_7 rfl rfl rfl ?_
  refine g_instY X0 K (q := 11) (w64 H) e0 (Ins.self E_1) d9_8 rfl ?_
  intro T1 X1 e1
  refine g_ifN X1 K (q := 14) d9_11 (by decide) rfl ?_
  refine g_aloadN X1 K (q := 15) d9_14 rfl rfl rfl ?_
  refine g_cast X1 K (q := 18) (w64 H) e1 (Ins.self E_1) d9_15 rfl ?_
  intro T2 X2 e2
  refine g_astoreN X2 K (q := 19) (L' := #[.val (.ref (ad10 Z a0)), .val (.ref a1), .val (.ref a1)]) d9_18 rfl rfl rfl ?_
  refine g_gets X2 K (q := 22) (w65 H) e2 ((ivs0 H).ext Ol0.2) d9_19 rfl ?_
  intro T3 X3 e3
  refine g_ifN X3 K (q := 25) d9_22 (feq (ivn0 H)).1 rfl ?_
  refine g_aloadN X3 K (q := 26) d9_25 rfl rfl rfl ?_
  refine g_getf X3 K (q := 29) (w28 H) Via.refl e3 ((f10_coder H).ext Ol0.2) d9_26 rfl ?_
  intro T4 X4 e4
  refine g_aloadN X4 K (q := 30) d9_29 rfl rfl rfl ?_
  refine g_getf X4 K (q := 33) (w28 H) Via.refl e4 F_1 d9_30 rfl ?_
  intro T5 X5 e5
  refine g_icN X5 K (q := 36) d9_33 (by decide) rfl ?_
  refine g_aloadN X5 K (q := 37) d9_36 rfl rfl rfl ?_
  refine g_getf X5 K (q := 40) (w27 H) Via.refl e5 ((f10_value H).ext Ol0.2) d9_37 rfl ?_
  intro T6 X6 e6
  refine g_aloadN X6 K (q := 41) d9_40 rfl rfl rfl ?_
  refine g_getf X6 K (q := 44) (w27 H) Via.refl e6 F_2 d9_41 rfl ?_
  intro T7 X7 e7
  refine g_static X7 K (q := 47) (W := 0) (w66 H) (w67 H) (w68 H) (w69 H) (by decide) (rm10_38 l H a2 p1 k1 h0 Ol0 A_1) e7 rfl (argsL := [(.ref (ad16 Z a0)), (.ref a2)]) (rest := []) (lenOf pd_6 rfl) rfl rfl (Nat.le_of_eq rfl) d9_44 (by decide) (by decide) (by decide) (by decide) rfl ?_
  rintro T8 v8 L8 X8 ⟨rfl, N8q, e8⟩
  have N8 := Fr.app (Fr.nil _) N8q
  show Go p e below _ T8 (mkF m 47 #[.val (.ref (ad10 Z a0)), .val (.ref a1), .val (.ref a1)] [(.int (0 : Int32))])
  refine g_ifY X8 K (q := 54) d9_47 (by decide) (by decide) (by decide) ?_
  refine g_iconst X8 K (q := 55) (v := (0 : Int32)) d9_54 (by decide) rfl ?_
  refine g_nret X8 K (by simp) (z' := (0 : Int32)) (by decide) d9_55 (by decide) (by decide) ?_
  exact ⟨rfl, N8, e8⟩
set_option maxRecDepth 65536 in
set_option maxHeartbeats 40000000 in
theorem rm10_40 (l : Launch) {Z : State} {a0 : Array Value} (H : Hyp Z a0) (a1 : Addr) (p1 : Int32) (k1 : ClassId) (h0 : Heap) (Ol : Old Z Z.heap.size h0) (A_1 : Arv Z h0 a1 k1 .byte (1 : Int32) [(.int p1)] (.int (0 : Int32))) (hc_1 : (62 : Int32) = p1) :
    Mt l Z (⟨"java/lang/StringLatin1", "equals", "([B[B)Z"⟩ : MethodName) jdk_43_method_13_code 3 (some .boolean) [] ({ frames := 0, cells := 0, slots := 0, locals := 0 } : Room) #[(.ref (ad17 Z a0)), (.ref a1)] h0 (fun v h L => (v = some (.int (1 : Int32)) ∧ Fr Z.heap.size L ∧ h = h0)) := by
  refine g_body (plainFor_of_name pn_java_lang_StringLatin1) ?_
  intro p e s m below meth c T0 K X0 e0
  refine g_entry (ef_6 m (ad17 Z a0) a1) ?_
  have Ol0 := Ol
  refine g_aloadN X0 K (q := 1) d10_0 rfl rfl rfl ?_
  refine g_len X0 K (q := 2) e0 ((v17 H).ext Ol0.2) d10_1 rfl ?_
  refine g_aloadN X0 K (q := 3) d10_2 rfl rfl rfl ?_
  refine g_len X0 K (q := 4) e0 A_1 d10_3 rfl ?_
  refine g_icN X0 K (q := 7) d10_4 (by decide) rfl ?_
  refine g_iconst X0 K (q := 8) (v := (0 : Int32)) d10_7 (by decide) rfl ?_
  refine g_istoreN X0 K (q := 9) (L' := #[.val (.ref (ad17 Z a0)), .val (.ref a1), .val (.int (0 : Int32))]) d10_8 rfl rfl ?_
  refine g_iloadN X0 K (q := 10) d10_9 rfl rfl ?_
  refine g_aloadN X0 K (q := 11) d10_10 rfl rfl rfl ?_
  refine g_len X0 K (q := 12) e0 ((v17 H).ext Ol0.2) d10_11 rfl ?_
  refine g_icN X0 K (q := 15) d10_12 (by decide) rfl ?_
  refine g_aloadN X0 K (q := 16) d10_15 rfl rfl rfl ?_
  refine g_iloadN X0 K (q := 17) d10_16 rfl rfl ?_
  refine g_bald X0 K (q := 18) (v := (.int (62 : Int32))) e0 ((v17 H).ext Ol0.2) (by decide) rfl d10_17 rfl ?_
  refine g_aloadN X0 K (q := 19) d10_18 rfl rfl rfl ?_
  refine g_iloadN X0 K (q := 20) d10_19 rfl rfl ?_
  refine g_bald X0 K (q := 21) (v := (.int p1)) e0 A_1 (by decide) rfl d10_20 rfl ?_
  refine g_icY X0 K (q := 26) d10_21 (teq hc_1).1 (by decide) (by decide) ?_
  refine g_iinc X0 K (q := 29) (z := (1 : Int32)) (L' := #[.val (.ref (ad17 Z a0)), .val (.ref a1), .val (.int (1 : Int32))]) d10_26 rfl (by decide) rfl rfl ?_
  refine g_goto X0 K (q := 9) d10_29 (by decide) (by decide) ?_
  refine g_iloadN X0 K (q := 10) d10_9 rfl rfl ?_
  refine g_aloadN X0 K (q := 11) d10_10 rfl rfl rfl ?_
  refine g_len X0 K (q := 12) e0 ((v17 H).ext Ol0.2) d10_11 rfl ?_
  refine g_icY X0 K (q := 32) d10_12 (by decide) (by decide) (by decide) ?_
  refine g_iconst X0 K (q := 33) (v := (1 : Int32)) d10_32 (by decide) rfl ?_
  refine g_nret X0 K (by simp) (z' := (1 : Int32)) (by decide) d10_33 (by decide) (by decide) ?_
  exact ⟨rfl, (Fr.nil _), e0⟩
set_option maxRecDepth 65536 in
set_option maxHeartbeats 40000000 in
theorem rm9_41 (l : Launch) {Z : State} {a0 : Array Value} (H : Hyp Z a0) (a1 : Addr) (a2 : Addr) (p1 : Int32) (k1 : ClassId) (h0 : Heap) (Ol : Old Z Z.heap.size h0) (ge_1 : Z.heap.size ≤ a1) (E_1 : Exa Z h0 a1 "java/lang/String") (F_1 : Fld Z h0 a1 "java/lang/String" "coder" "B" (.int (0 : Int32))) (F_2 : Fld Z h0 a1 "java/lang/String" "value" "[B" (.ref a2)) (A_1 : Arv Z h0 a2 k1 .byte (1 : Int32) [(.int p1)] (.int (0 : Int32))) (hc_1 : (62 : Int32) = p1) :
    Mt l Z (⟨"java/lang/String", "equals", "(Ljava/lang/Object;)Z"⟩ : MethodName) jdk_42_method_66_code 3 (some .boolean) [] ({ frames := 1, cells := 0, slots := 0, locals := 14 } : Room) #[(.ref (ad11 Z a0)), (.ref a1)] h0 (fun v h L => (v = some (.int (1 : Int32)) ∧ Fr Z.heap.size L ∧ h = h0)) := by
  refine g_body (plainFor_of_name pn_java_lang_String) ?_
  intro p e s m below meth c T0 K X0 e0
  refine g_entry (ef_6 m (ad11 Z a0) a1) ?_
  have Ol0 := Ol
  refine g_aloadN X0 K (q := 1) d9_0 rfl rfl rfl ?_
  refine g_aloadN X0 K (q := 2) d9_1 rfl rfl rfl ?_
  have ne1 : (ad11 Z a0) ≠ a1 := (Nat.ne_of_lt (Nat.lt_of_lt_of_le (f11_value H).lt ge_1))
  refine g_ac X0 K (q := 7) (same := false) d9_2 rfl rfl (decide_eq_false fun q => ne1 (Value.ref.inj q)) (by decide) (by decide) ?_
  refine g_aloadN X0 K (q := 8) d9_7 rfl rfl rfl ?_
  refine g_instY X0 K (q := 11) (w64 H) e0 (Ins.self E_1) d9_8 rfl ?_
  intro T1 X1 e1
  refine g_ifN X1 K (q := 14) d9_11 (by decide) rfl ?_
  refine g_aloadN X1 K (q := 15) d9_14 rfl rfl rfl ?_
  refine g_cast X1 K (q := 18) (w64 H) e1 (Ins.self E_1) d9_15 rfl ?_
  intro T2 X2 e2
  refine g_astoreN X2 K (q := 19) (L' := #[.val (.ref (ad11 Z a0)), .val (.ref a1), .val (.ref a1)]) d9_18 rfl rfl rfl ?_
  refine g_gets X2 K (q := 22) (w65 H) e2 ((ivs0 H).ext Ol0.2) d9_19 rfl ?_
  intro T3 X3 e3
  refine g_ifN X3 K (q := 25) d9_22 (feq (ivn0 H)).1 rfl ?_
  refine g_aloadN X3 K (q := 26) d9_25 rfl rfl rfl ?_
  refine g_getf X3 K (q := 29) (w28 H) Via.refl e3 ((f11_coder H).ext Ol0.2) d9_26 rfl ?_
  intro T4 X4 e4
  refine g_aloadN X4 K (q := 30) d9_29 rfl rfl rfl ?_
  refine g_getf X4 K (q := 33) (w28 H) Via.refl e4 F_1 d9_30 rfl ?_
  intro T5 X5 e5
  refine g_icN X5 K (q := 36) d9_33 (by decide) rfl ?_
  refine g_aloadN X5 K (q := 37) d9_36 rfl rfl rfl ?_
  refine g_getf X5 K (q := 40) (w27 H) Via.refl e5 ((f11_value H).ext Ol0.2) d9_37 rfl ?_
  intro T6 X6 e6
  refine g_aloadN X6 K (q := 41) d9_40 rfl rfl rfl ?_
  refine g_getf X6 K (q := 44) (w27 H) Via.refl e6 F_2 d9_41 rfl ?_
  intro T7 X7 e7
  refine g_static X7 K (q := 47) (W := 0) (w66 H) (w67 H) (w68 H) (w69 H) (by decide) (rm10_40 l H a2 p1 k1 h0 Ol0 A_1 hc_1) e7 rfl (argsL := [(.ref (ad17 Z a0)), (.ref a2)]) (rest := []) (lenOf pd_6 rfl) rfl rfl (Nat.le_of_eq rfl) d9_44 (by decide) (by decide) (by decide) (by decide) rfl ?_
  rintro T8 v8 L8 X8 ⟨rfl, N8q, e8⟩
  have N8 := Fr.app (Fr.nil _) N8q
  show Go p e below _ T8 (mkF m 47 #[.val (.ref (ad11 Z a0)), .val (.ref a1), .val (.ref a1)] [(.int (1 : Int32))])
  refine g_ifN X8 K (q := 50) d9_47 (by decide) rfl ?_
  refine g_iconst X8 K (q := 51) (v := (1 : Int32)) d9_50 (by decide) rfl ?_
  refine g_goto X8 K (q := 55) d9_51 (by decide) (by decide) ?_
  refine g_nret X8 K (by simp) (z' := (1 : Int32)) (by decide) d9_55 (by decide) (by decide) ?_
  exact ⟨rfl, N8, e8⟩
set_option maxRecDepth 65536 in
set_option maxHeartbeats 40000000 in
theorem rm7_42 (l : Launch) {Z : State} {a0 : Array Value} (H : Hyp Z a0) (a1 : Addr) (a2 : Addr) (p1 : Int32) (k1 : ClassId) (h0 : Heap) (Ol : Old Z Z.heap.size h0) (F_1 : Fld Z h0 a1 "java/lang/String" "coder" "B" (.int (0 : Int32))) (F_2 : Fld Z h0 a1 "java/lang/String" "value" "[B" (.ref a2)) (A_1 : Arv Z h0 a2 k1 .byte (1 : Int32) [(.int p1)] (.int (0 : Int32))) (hc_1 : ¬ ((61 : Int32) = p1)) (ge_1 : Z.heap.size ≤ a1) (E_1 : Exa Z h0 a1 "java/lang/String") (hc_2 : ¬ ((60 : Int32) = p1)) (hc_3 : (62 : Int32) = p1) :
    Mt l Z (⟨"com/example/annotable/annotable/PathQuery$Comparison", "of", "(Ljava/lang/String;)Lcom/example/annotable/annotable/PathQuery$Comparison;"⟩ : MethodName) prog_16_method_6_code 5 (some (.object "com/example/annotable/annotable/PathQuery$Comparison")) [] ({ frames := 2, cells := 1, slots := 6, locals := 28 } : Room) #[(.ref a1)] h0 (fun v h L => (v = some (.ref (ad5 Z a0)) ∧ Fr Z.heap.size L ∧ Keep h0 h [])) := by
  refine g_body (plainFor_of_name pn_com_example_annotable_annotable_PathQuery_Comparison) ?_
  intro p e s m below meth c T0 K X0 e0
  refine g_entry (ef_7 m a1) ?_
  have nw_a1 : a1 ∉ [] := nin0
  have nw_a2 : a2 ∉ [] := nin0
  have Ol0 := Ol
  refine g_static X0 K (q := 3) (W := 0) (w36 H) (w37 H) (w34 H) (w38 H) (by decide) (rm8_6 l H h0 Ol0) e0 rfl (argsL := []) (rest := []) (lenOf pd_5 rfl) rfl rfl (Nat.le_of_eq rfl) d7_0 (by decide) (by decide) (by decide) (by decide) rfl ?_
  rintro T1 v1 L1 X1 ⟨bx1, rfl, N1q, Kc1, lz1_0, g1, g2⟩
  have szbx1 := Nat.le_trans (Keep.refl h0 []).1 lz1_0
  have gebx1 := Nat.le_trans Ol0.2.1 lz1_0
  have so1 := Sd.one bx1
  obtain ⟨N1, Ol1, Kp1⟩ := ivK (Fr.nil _) Ol0 (Keep.refl h0 []) N1q Kc1 all0 all0
  show Go p e below _ T1 (mkF m 3 #[.val (.ref a1), .unset, .unset, .unset, .unset] [(.ref bx1)])
  refine g_astoreN X1 K (q := 4) (L' := #[.val (.ref a1), .val (.ref bx1), .unset, .unset, .unset]) d7_3 rfl rfl rfl ?_
  refine g_aloadN X1 K (q := 5) d7_4 rfl rfl rfl ?_
  refine g_len X1 K (q := 6) rfl g1 d7_5 rfl ?_
  refine g_istoreN X1 K (q := 7) (L' := #[.val (.ref a1), .val (.ref bx1), .val (.int (6 : Int32)), .unset, .unset]) d7_6 rfl rfl ?_
  refine g_iconst X1 K (q := 8) (v := (0 : Int32)) d7_7 (by decide) rfl ?_
  refine g_istoreN X1 K (q := 9) (L' := #[.val (.ref a1), .val (.ref bx1), .val (.int (6 : Int32)), .val (.int (0 : Int32)), .unset]) d7_8 rfl rfl ?_
  refine g_iloadN X1 K (q := 10) d7_9 rfl rfl ?_
  refine g_iloadN X1 K (q := 11) d7_10 rfl rfl ?_
  refine g_icN X1 K (q := 14) d7_11 (by decide) rfl ?_
  refine g_aloadN X1 K (q := 15) d7_14 rfl rfl rfl ?_
  refine g_iloadN X1 K (q := 16) d7_15 rfl rfl ?_
  refine g_aald X1 K (q := 17) (v := (.ref (ad1 Z a0))) rfl g1 rfl (by decide) rfl d7_16 rfl ?_
  refine g_astore X1 K (q := 19) (L' := #[.val (.ref a1), .val (.ref bx1), .val (.int (6 : Int32)), .val (.int (0 : Int32)), .val (.ref (ad1 Z a0))]) d7_17 rfl rfl rfl ?_
  refine g_aload X1 K (q := 21) d7_19 rfl rfl rfl ?_
  refine g_getf X1 K (q := 24) (w57 H) Via.refl rfl ((f1_symbol H).ext Ol1.2) d7_21 rfl ?_
  intro T2 X2 e2
  refine g_aloadN X2 K (q := 25) d7_24 rfl rfl rfl ?_
  have f1 := E_1.keep Kp1
  have f2 := F_1.keep Kp1 nw_a1
  have f3 := F_2.keep Kp1 nw_a1
  have f4 := A_1.keep Kp1 nw_a2
  refine g_virtual X2 K (q := 28) (W := 0) (a := (ad7 Z a0)) (w59 H) (w60 H) (nf_self K (w62 H)) (w62 H) (w61 H) (w9 H) (w63 H) (by decide) (rm9_30 l H a1 a2 p1 k1 T1.heap Ol1 ge_1 f1 f2 f3 f4 hc_1) e2 ((x7 H).ext Ol1.2) rfl (argsL := [(.ref a1)]) (rest := []) (lenOf pd_7 rfl) rfl rfl (Nat.le_of_eq rfl) d7_25 (by decide) (by decide) (by decide) (by decide) rfl ?_
  rintro T3 v3 L3 X3 ⟨rfl, N3q, e3⟩
  have N3 := Fr.app N1 N3q
  show Go p e below _ T3 (mkF m 28 #[.val (.ref a1), .val (.ref bx1), .val (.int (6 : Int32)), .val (.int (0 : Int32)), .val (.ref (ad1 Z a0))] [(.int (0 : Int32))])
  refine g_ifY X3 K (q := 34) d7_28 (by decide) (by decide) (by decide) ?_
  refine g_iinc X3 K (q := 37) (z := (1 : Int32)) (L' := #[.val (.ref a1), .val (.ref bx1), .val (.int (6 : Int32)), .val (.int (1 : Int32)), .val (.ref (ad1 Z a0))]) d7_34 rfl (by decide) rfl rfl ?_
  refine g_goto X3 K (q := 9) d7_37 (by decide) (by decide) ?_
  refine g_iloadN X3 K (q := 10) d7_9 rfl rfl ?_
  refine g_iloadN X3 K (q := 11) d7_10 rfl rfl ?_
  refine g_icN X3 K (q := 14) d7_11 (by decide) rfl ?_
  refine g_aloadN X3 K (q := 15) d7_14 rfl rfl rfl ?_
  refine g_iloadN X3 K (q := 16) d7_15 rfl rfl ?_
  refine g_aald X3 K (q := 17) (v := (.ref (ad2 Z a0))) e3 g1 rfl (by decide) rfl d7_16 rfl ?_
  refine g_astore X3 K (q := 19) (L' := #[.val (.ref a1), .val (.ref bx1), .val (.int (6 : Int32)), .val (.int (1 : Int32)), .val (.ref (ad2 Z a0))]) d7_17 rfl rfl rfl ?_
  refine g_aload X3 K (q := 21) d7_19 rfl rfl rfl ?_
  refine g_getf X3 K (q := 24) (w57 H) Via.refl e3 ((f2_symbol H).ext Ol1.2) d7_21 rfl ?_
  intro T4 X4 e4
  refine g_aloadN X4 K (q := 25) d7_24 rfl rfl rfl ?_
  refine g_virtual X4 K (q := 28) (W := 0) (a := (ad8 Z a0)) (w59 H) (w60 H) (nf_self K (w62 H)) (w62 H) (w61 H) (w9 H) (w63 H) (by decide) (rm9_32 l H a1 a2 p1 k1 T1.heap Ol1 ge_1 f1 f2 f3 f4) e4 ((x8 H).ext Ol1.2) rfl (argsL := [(.ref a1)]) (rest := []) (lenOf pd_7 rfl) rfl rfl (Nat.le_of_eq rfl) d7_25 (by decide) (by decide) (by decide) (by decide) rfl ?_
  rintro T5 v5 L5 X5 ⟨rfl, N5q, e5⟩
  have N5 := Fr.app N3 N5q
  show Go p e below _ T5 (mkF m 28 #[.val (.ref a1), .val (.ref bx1), .val (.int (6 : Int32)), .val (.int (1 : Int32)), .val (.ref (ad2 Z a0))] [(.int (0 : Int32))])
  refine g_ifY X5 K (q := 34) d7_28 (by decide) (by decide) (by decide) ?_
  refine g_iinc X5 K (q := 37) (z := (2 : Int32)) (L' := #[.val (.ref a1), .val (.ref bx1), .val (.int (6 : Int32)), .val (.int (2 : Int32)), .val (.ref (ad2 Z a0))]) d7_34 rfl (by decide) rfl rfl ?_
  refine g_goto X5 K (q := 9) d7_37 (by decide) (by decide) ?_
  refine g_iloadN X5 K (q := 10) d7_9 rfl rfl ?_
  refine g_iloadN X5 K (q := 11) d7_10 rfl rfl ?_
  refine g_icN X5 K (q := 14) d7_11 (by decide) rfl ?_
  refine g_aloadN X5 K (q := 15) d7_14 rfl rfl rfl ?_
  refine g_iloadN X5 K (q := 16) d7_15 rfl rfl ?_
  refine g_aald X5 K (q := 17) (v := (.ref (ad3 Z a0))) e5 g1 rfl (by decide) rfl d7_16 rfl ?_
  refine g_astore X5 K (q := 19) (L' := #[.val (.ref a1), .val (.ref bx1), .val (.int (6 : Int32)), .val (.int (2 : Int32)), .val (.ref (ad3 Z a0))]) d7_17 rfl rfl rfl ?_
  refine g_aload X5 K (q := 21) d7_19 rfl rfl rfl ?_
  refine g_getf X5 K (q := 24) (w57 H) Via.refl e5 ((f3_symbol H).ext Ol1.2) d7_21 rfl ?_
  intro T6 X6 e6
  refine g_aloadN X6 K (q := 25) d7_24 rfl rfl rfl ?_
  refine g_virtual X6 K (q := 28) (W := 0) (a := (ad9 Z a0)) (w59 H) (w60 H) (nf_self K (w62 H)) (w62 H) (w61 H) (w9 H) (w63 H) (by decide) (rm9_37 l H a1 a2 p1 k1 T1.heap Ol1 ge_1 f1 f2 f3 f4 hc_2) e6 ((x9 H).ext Ol1.2) rfl (argsL := [(.ref a1)]) (rest := []) (lenOf pd_7 rfl) rfl rfl (Nat.le_of_eq rfl) d7_25 (by decide) (by decide) (by decide) (by decide) rfl ?_
  rintro T7 v7 L7 X7 ⟨rfl, N7q, e7⟩
  have N7 := Fr.app N5 N7q
  show Go p e below _ T7 (mkF m 28 #[.val (.ref a1), .val (.ref bx1), .val (.int (6 : Int32)), .val (.int (2 : Int32)), .val (.ref (ad3 Z a0))] [(.int (0 : Int32))])
  refine g_ifY X7 K (q := 34) d7_28 (by decide) (by decide) (by decide) ?_
  refine g_iinc X7 K (q := 37) (z := (3 : Int32)) (L' := #[.val (.ref a1), .val (.ref bx1), .val (.int (6 : Int32)), .val (.int (3 : Int32)), .val (.ref (ad3 Z a0))]) d7_34 rfl (by decide) rfl rfl ?_
  refine g_goto X7 K (q := 9) d7_37 (by decide) (by decide) ?_
  refine g_iloadN X7 K (q := 10) d7_9 rfl rfl ?_
  refine g_iloadN X7 K (q := 11) d7_10 rfl rfl ?_
  refine g_icN X7 K (q := 14) d7_11 (by decide) rfl ?_
  refine g_aloadN X7 K (q := 15) d7_14 rfl rfl rfl ?_
  refine g_iloadN X7 K (q := 16) d7_15 rfl rfl ?_
  refine g_aald X7 K (q := 17) (v := (.ref (ad4 Z a0))) e7 g1 rfl (by decide) rfl d7_16 rfl ?_
  refine g_astore X7 K (q := 19) (L' := #[.val (.ref a1), .val (.ref bx1), .val (.int (6 : Int32)), .val (.int (3 : Int32)), .val (.ref (ad4 Z a0))]) d7_17 rfl rfl rfl ?_
  refine g_aload X7 K (q := 21) d7_19 rfl rfl rfl ?_
  refine g_getf X7 K (q := 24) (w57 H) Via.refl e7 ((f4_symbol H).ext Ol1.2) d7_21 rfl ?_
  intro T8 X8 e8
  refine g_aloadN X8 K (q := 25) d7_24 rfl rfl rfl ?_
  refine g_virtual X8 K (q := 28) (W := 0) (a := (ad10 Z a0)) (w59 H) (w60 H) (nf_self K (w62 H)) (w62 H) (w61 H) (w9 H) (w63 H) (by decide) (rm9_39 l H a1 a2 p1 k1 T1.heap Ol1 ge_1 f1 f2 f3 f4) e8 ((x10 H).ext Ol1.2) rfl (argsL := [(.ref a1)]) (rest := []) (lenOf pd_7 rfl) rfl rfl (Nat.le_of_eq rfl) d7_25 (by decide) (by decide) (by decide) (by decide) rfl ?_
  rintro T9 v9 L9 X9 ⟨rfl, N9q, e9⟩
  have N9 := Fr.app N7 N9q
  show Go p e below _ T9 (mkF m 28 #[.val (.ref a1), .val (.ref bx1), .val (.int (6 : Int32)), .val (.int (3 : Int32)), .val (.ref (ad4 Z a0))] [(.int (0 : Int32))])
  refine g_ifY X9 K (q := 34) d7_28 (by decide) (by decide) (by decide) ?_
  refine g_iinc X9 K (q := 37) (z := (4 : Int32)) (L' := #[.val (.ref a1), .val (.ref bx1), .val (.int (6 : Int32)), .val (.int (4 : Int32)), .val (.ref (ad4 Z a0))]) d7_34 rfl (by decide) rfl rfl ?_
  refine g_goto X9 K (q := 9) d7_37 (by decide) (by decide) ?_
  refine g_iloadN X9 K (q := 10) d7_9 rfl rfl ?_
  refine g_iloadN X9 K (q := 11) d7_10 rfl rfl ?_
  refine g_icN X9 K (q := 14) d7_11 (by decide) rfl ?_
  refine g_aloadN X9 K (q := 15) d7_14 rfl rfl rfl ?_
  refine g_iloadN X9 K (q := 16) d7_15 rfl rfl ?_
  refine g_aald X9 K (q := 17) (v := (.ref (ad5 Z a0))) e9 g1 rfl (by decide) rfl d7_16 rfl ?_
  refine g_astore X9 K (q := 19) (L' := #[.val (.ref a1), .val (.ref bx1), .val (.int (6 : Int32)), .val (.int (4 : Int32)), .val (.ref (ad5 Z a0))]) d7_17 rfl rfl rfl ?_
  refine g_aload X9 K (q := 21) d7_19 rfl rfl rfl ?_
  refine g_getf X9 K (q := 24) (w57 H) Via.refl e9 ((f5_symbol H).ext Ol1.2) d7_21 rfl ?_
  intro T10 X10 e10
  refine g_aloadN X10 K (q := 25) d7_24 rfl rfl rfl ?_
  refine g_virtual X10 K (q := 28) (W := 0) (a := (ad11 Z a0)) (w59 H) (w60 H) (nf_self K (w62 H)) (w62 H) (w61 H) (w9 H) (w63 H) (by decide) (rm9_41 l H a1 a2 p1 k1 T1.heap Ol1 ge_1 f1 f2 f3 f4 hc_3) e10 ((x11 H).ext Ol1.2) rfl (argsL := [(.ref a1)]) (rest := []) (lenOf pd_7 rfl) rfl rfl (Nat.le_of_eq rfl) d7_25 (by decide) (by decide) (by decide) (by decide) rfl ?_
  rintro T11 v11 L11 X11 ⟨rfl, N11q, e11⟩
  have N11 := Fr.app N9 N11q
  show Go p e below _ T11 (mkF m 28 #[.val (.ref a1), .val (.ref bx1), .val (.int (6 : Int32)), .val (.int (4 : Int32)), .val (.ref (ad5 Z a0))] [(.int (1 : Int32))])
  refine g_ifN X11 K (q := 31) d7_28 (by decide) rfl ?_
  refine g_aload X11 K (q := 33) d7_31 rfl rfl rfl ?_
  refine g_aret X11 K rfl rfl rfl d7_33 (by decide) (by decide) ?_
  have Kp : Keep h0 T11.heap [] := by rw [e11]; exact Kp1
  exact ⟨rfl, N11, Kp⟩
set_option maxRecDepth 65536 in
set_option maxHeartbeats 40000000 in
theorem rm10_43 (l : Launch) {Z : State} {a0 : Array Value} (H : Hyp Z a0) (a1 : Addr) (p1 : Int32) (k1 : ClassId) (h0 : Heap) (Ol : Old Z Z.heap.size h0) (A_1 : Arv Z h0 a1 k1 .byte (1 : Int32) [(.int p1)] (.int (0 : Int32))) (hc_1 : ¬ ((62 : Int32) = p1)) :
    Mt l Z (⟨"java/lang/StringLatin1", "equals", "([B[B)Z"⟩ : MethodName) jdk_43_method_13_code 3 (some .boolean) [] ({ frames := 0, cells := 0, slots := 0, locals := 0 } : Room) #[(.ref (ad17 Z a0)), (.ref a1)] h0 (fun v h L => (v = some (.int (0 : Int32)) ∧ Fr Z.heap.size L ∧ h = h0)) := by
  refine g_body (plainFor_of_name pn_java_lang_StringLatin1) ?_
  intro p e s m below meth c T0 K X0 e0
  refine g_entry (ef_6 m (ad17 Z a0) a1) ?_
  have Ol0 := Ol
  refine g_aloadN X0 K (q := 1) d10_0 rfl rfl rfl ?_
  refine g_len X0 K (q := 2) e0 ((v17 H).ext Ol0.2) d10_1 rfl ?_
  refine g_aloadN X0 K (q := 3) d10_2 rfl rfl rfl ?_
  refine g_len X0 K (q := 4) e0 A_1 d10_3 rfl ?_
  refine g_icN X0 K (q := 7) d10_4 (by decide) rfl ?_
  refine g_iconst X0 K (q := 8) (v := (0 : Int32)) d10_7 (by decide) rfl ?_
  refine g_istoreN X0 K (q := 9) (L' := #[.val (.ref (ad17 Z a0)), .val (.ref a1), .val (.int (0 : Int32))]) d10_8 rfl rfl ?_
  refine g_iloadN X0 K (q := 10) d10_9 rfl rfl ?_
  refine g_aloadN X0 K (q := 11) d10_10 rfl rfl rfl ?_
  refine g_len X0 K (q := 12) e0 ((v17 H).ext Ol0.2) d10_11 rfl ?_
  refine g_icN X0 K (q := 15) d10_12 (by decide) rfl ?_
  refine g_aloadN X0 K (q := 16) d10_15 rfl rfl rfl ?_
  refine g_iloadN X0 K (q := 17) d10_16 rfl rfl ?_
  refine g_bald X0 K (q := 18) (v := (.int (62 : Int32))) e0 ((v17 H).ext Ol0.2) (by decide) rfl d10_17 rfl ?_
  refine g_aloadN X0 K (q := 19) d10_18 rfl rfl rfl ?_
  refine g_iloadN X0 K (q := 20) d10_19 rfl rfl ?_
  refine g_bald X0 K (q := 21) (v := (.int p1)) e0 A_1 (by decide) rfl d10_20 rfl ?_
  refine g_icN X0 K (q := 24) d10_21 (feq hc_1).1 rfl ?_
  refine g_iconst X0 K (q := 25) (v := (0 : Int32)) d10_24 (by decide) rfl ?_
  refine g_nret X0 K (by simp) (z' := (0 : Int32)) (by decide) d10_25 (by decide) (by decide) ?_
  exact ⟨rfl, (Fr.nil _), e0⟩
set_option maxRecDepth 65536 in
set_option maxHeartbeats 40000000 in
theorem rm9_44 (l : Launch) {Z : State} {a0 : Array Value} (H : Hyp Z a0) (a1 : Addr) (a2 : Addr) (p1 : Int32) (k1 : ClassId) (h0 : Heap) (Ol : Old Z Z.heap.size h0) (ge_1 : Z.heap.size ≤ a1) (E_1 : Exa Z h0 a1 "java/lang/String") (F_1 : Fld Z h0 a1 "java/lang/String" "coder" "B" (.int (0 : Int32))) (F_2 : Fld Z h0 a1 "java/lang/String" "value" "[B" (.ref a2)) (A_1 : Arv Z h0 a2 k1 .byte (1 : Int32) [(.int p1)] (.int (0 : Int32))) (hc_1 : ¬ ((62 : Int32) = p1)) :
    Mt l Z (⟨"java/lang/String", "equals", "(Ljava/lang/Object;)Z"⟩ : MethodName) jdk_42_method_66_code 3 (some .boolean) [] ({ frames := 1, cells := 0, slots := 0, locals := 14 } : Room) #[(.ref (ad11 Z a0)), (.ref a1)] h0 (fun v h L => (v = some (.int (0 : Int32)) ∧ Fr Z.heap.size L ∧ h = h0)) := by
  refine g_body (plainFor_of_name pn_java_lang_String) ?_
  intro p e s m below meth c T0 K X0 e0
  refine g_entry (ef_6 m (ad11 Z a0) a1) ?_
  have Ol0 := Ol
  refine g_aloadN X0 K (q := 1) d9_0 rfl rfl rfl ?_
  refine g_aloadN X0 K (q := 2) d9_1 rfl rfl rfl ?_
  have ne1 : (ad11 Z a0) ≠ a1 := (Nat.ne_of_lt (Nat.lt_of_lt_of_le (f11_value H).lt ge_1))
  refine g_ac X0 K (q := 7) (same := false) d9_2 rfl rfl (decide_eq_false fun q => ne1 (Value.ref.inj q)) (by decide) (by decide) ?_
  refine g_aloadN X0 K (q := 8) d9_7 rfl rfl rfl ?_
  refine g_instY X0 K (q := 11) (w64 H) e0 (Ins.self E_1) d9_8 rfl ?_
  intro T1 X1 e1
  refine g_ifN X1 K (q := 14) d9_11 (by decide) rfl ?_
  refine g_aloadN X1 K (q := 15) d9_14 rfl rfl rfl ?_
  refine g_cast X1 K (q := 18) (w64 H) e1 (Ins.self E_1) d9_15 rfl ?_
  intro T2 X2 e2
  refine g_astoreN X2 K (q := 19) (L' := #[.val (.ref (ad11 Z a0)), .val (.ref a1), .val (.ref a1)]) d9_18 rfl rfl rfl ?_
  refine g_gets X2 K (q := 22) (w65 H) e2 ((ivs0 H).ext Ol0.2) d9_19 rfl ?_
  intro T3 X3 e3
  refine g_ifN X3 K (q := 25) d9_22 (feq (ivn0 H)).1 rfl ?_
  refine g_aloadN X3 K (q := 26) d9_25 rfl rfl rfl ?_
  refine g_getf X3 K (q := 29) (w28 H) Via.refl e3 ((f11_coder H).ext Ol0.2) d9_26 rfl ?_
  intro T4 X4 e4
  refine g_aloadN X4 K (q := 30) d9_29 rfl rfl rfl ?_
  refine g_getf X4 K (q := 33) (w28 H) Via.refl e4 F_1 d9_30 rfl ?_
  intro T5 X5 e5
  refine g_icN X5 K (q := 36) d9_33 (by decide) rfl ?_
  refine g_aloadN X5 K (q := 37) d9_36 rfl rfl rfl ?_
  refine g_getf X5 K (q := 40) (w27 H) Via.refl e5 ((f11_value H).ext Ol0.2) d9_37 rfl ?_
  intro T6 X6 e6
  refine g_aloadN X6 K (q := 41) d9_40 rfl rfl rfl ?_
  refine g_getf X6 K (q := 44) (w27 H) Via.refl e6 F_2 d9_41 rfl ?_
  intro T7 X7 e7
  refine g_static X7 K (q := 47) (W := 0) (w66 H) (w67 H) (w68 H) (w69 H) (by decide) (rm10_43 l H a2 p1 k1 h0 Ol0 A_1 hc_1) e7 rfl (argsL := [(.ref (ad17 Z a0)), (.ref a2)]) (rest := []) (lenOf pd_6 rfl) rfl rfl (Nat.le_of_eq rfl) d9_44 (by decide) (by decide) (by decide) (by decide) rfl ?_
  rintro T8 v8 L8 X8 ⟨rfl, N8q, e8⟩
  have N8 := Fr.app (Fr.nil _) N8q
  show Go p e below _ T8 (mkF m 47 #[.val (.ref (ad11 Z a0)), .val (.ref a1), .val (.ref a1)] [(.int (0 : Int32))])
  refine g_ifY X8 K (q := 54) d9_47 (by decide) (by decide) (by decide) ?_
  refine g_iconst X8 K (q := 55) (v := (0 : Int32)) d9_54 (by decide) rfl ?_
  refine g_nret X8 K (by simp) (z' := (0 : Int32)) (by decide) d9_55 (by decide) (by decide) ?_
  exact ⟨rfl, N8, e8⟩
set_option maxRecDepth 65536 in
set_option maxHeartbeats 40000000 in
theorem rm10_45 (l : Launch) {Z : State} {a0 : Array Value} (H : Hyp Z a0) (a1 : Addr) (p1 : Int32) (k1 : ClassId) (h0 : Heap) (Ol : Old Z Z.heap.size h0) (A_1 : Arv Z h0 a1 k1 .byte (1 : Int32) [(.int p1)] (.int (0 : Int32))) :
    Mt l Z (⟨"java/lang/StringLatin1", "equals", "([B[B)Z"⟩ : MethodName) jdk_43_method_13_code 3 (some .boolean) [] ({ frames := 0, cells := 0, slots := 0, locals := 0 } : Room) #[(.ref (ad18 Z a0)), (.ref a1)] h0 (fun v h L => (v = some (.int (0 : Int32)) ∧ Fr Z.heap.size L ∧ h = h0)) := by
  refine g_body (plainFor_of_name pn_java_lang_StringLatin1) ?_
  intro p e s m below meth c T0 K X0 e0
  refine g_entry (ef_6 m (ad18 Z a0) a1) ?_
  have Ol0 := Ol
  refine g_aloadN X0 K (q := 1) d10_0 rfl rfl rfl ?_
  refine g_len X0 K (q := 2) e0 ((v18 H).ext Ol0.2) d10_1 rfl ?_
  refine g_aloadN X0 K (q := 3) d10_2 rfl rfl rfl ?_
  refine g_len X0 K (q := 4) e0 A_1 d10_3 rfl ?_
  refine g_icY X0 K (q := 34) d10_4 (by decide) (by decide) (by decide) ?_
  refine g_iconst X0 K (q := 35) (v := (0 : Int32)) d10_34 (by decide) rfl ?_
  refine g_nret X0 K (by simp) (z' := (0 : Int32)) (by decide) d10_35 (by decide) (by decide) ?_
  exact ⟨rfl, (Fr.nil _), e0⟩
set_option maxRecDepth 65536 in
set_option maxHeartbeats 40000000 in
theorem rm9_46 (l : Launch) {Z : State} {a0 : Array Value} (H : Hyp Z a0) (a1 : Addr) (a2 : Addr) (p1 : Int32) (k1 : ClassId) (h0 : Heap) (Ol : Old Z Z.heap.size h0) (ge_1 : Z.heap.size ≤ a1) (E_1 : Exa Z h0 a1 "java/lang/String") (F_1 : Fld Z h0 a1 "java/lang/String" "coder" "B" (.int (0 : Int32))) (F_2 : Fld Z h0 a1 "java/lang/String" "value" "[B" (.ref a2)) (A_1 : Arv Z h0 a2 k1 .byte (1 : Int32) [(.int p1)] (.int (0 : Int32))) :
    Mt l Z (⟨"java/lang/String", "equals", "(Ljava/lang/Object;)Z"⟩ : MethodName) jdk_42_method_66_code 3 (some .boolean) [] ({ frames := 1, cells := 0, slots := 0, locals := 14 } : Room) #[(.ref (ad12 Z a0)), (.ref a1)] h0 (fun v h L => (v = some (.int (0 : Int32)) ∧ Fr Z.heap.size L ∧ h = h0)) := by
  refine g_body (plainFor_of_name pn_java_lang_String) ?_
  intro p e s m below meth c T0 K X0 e0
  refine g_entry (ef_6 m (ad12 Z a0) a1) ?_
  have Ol0 := Ol
  refine g_aloadN X0 K (q := 1) d9_0 rfl rfl rfl ?_
  refine g_aloadN X0 K (q := 2) d9_1 rfl rfl rfl ?_
  have ne1 : (ad12 Z a0) ≠ a1 := (Nat.ne_of_lt (Nat.lt_of_lt_of_le (f12_value H).lt ge_1))
  refine g_ac X0 K (q := 7) (same := false) d9_2 rfl rfl (decide_eq_false fun q => ne1 (Value.ref.inj q)) (by decide) (by decide) ?_
  refine g_aloadN X0 K (q := 8) d9_7 rfl rfl rfl ?_
  refine g_instY X0 K (q := 11) (w64 H) e0 (Ins.self E_1) d9_8 rfl ?_
  intro T1 X1 e1
  refine g_ifN X1 K (q := 14) d9_11 (by decide) rfl ?_
  refine g_aloadN X1 K (q := 15) d9_14 rfl rfl rfl ?_
  refine g_cast X1 K (q := 18) (w64 H) e1 (Ins.self E_1) d9_15 rfl ?_
  intro T2 X2 e2
  refine g_astoreN X2 K (q := 19) (L' := #[.val (.ref (ad12 Z a0)), .val (.ref a1), .val (.ref a1)]) d9_18 rfl rfl rfl ?_
  refine g_gets X2 K (q := 22) (w65 H) e2 ((ivs0 H).ext Ol0.2) d9_19 rfl ?_
  intro T3 X3 e3
  refine g_ifN X3 K (q := 25) d9_22 (feq (ivn0 H)).1 rfl ?_
  refine g_aloadN X3 K (q := 26) d9_25 rfl rfl rfl ?_
  refine g_getf X3 K (q := 29) (w28 H) Via.refl e3 ((f12_coder H).ext Ol0.2) d9_26 rfl ?_
  intro T4 X4 e4
  refine g_aloadN X4 K (q := 30) d9_29 rfl rfl rfl ?_
  refine g_getf X4 K (q := 33) (w28 H) Via.refl e4 F_1 d9_30 rfl ?_
  intro T5 X5 e5
  refine g_icN X5 K (q := 36) d9_33 (by decide) rfl ?_
  refine g_aloadN X5 K (q := 37) d9_36 rfl rfl rfl ?_
  refine g_getf X5 K (q := 40) (w27 H) Via.refl e5 ((f12_value H).ext Ol0.2) d9_37 rfl ?_
  intro T6 X6 e6
  refine g_aloadN X6 K (q := 41) d9_40 rfl rfl rfl ?_
  refine g_getf X6 K (q := 44) (w27 H) Via.refl e6 F_2 d9_41 rfl ?_
  intro T7 X7 e7
  refine g_static X7 K (q := 47) (W := 0) (w66 H) (w67 H) (w68 H) (w69 H) (by decide) (rm10_45 l H a2 p1 k1 h0 Ol0 A_1) e7 rfl (argsL := [(.ref (ad18 Z a0)), (.ref a2)]) (rest := []) (lenOf pd_6 rfl) rfl rfl (Nat.le_of_eq rfl) d9_44 (by decide) (by decide) (by decide) (by decide) rfl ?_
  rintro T8 v8 L8 X8 ⟨rfl, N8q, e8⟩
  have N8 := Fr.app (Fr.nil _) N8q
  show Go p e below _ T8 (mkF m 47 #[.val (.ref (ad12 Z a0)), .val (.ref a1), .val (.ref a1)] [(.int (0 : Int32))])
  refine g_ifY X8 K (q := 54) d9_47 (by decide) (by decide) (by decide) ?_
  refine g_iconst X8 K (q := 55) (v := (0 : Int32)) d9_54 (by decide) rfl ?_
  refine g_nret X8 K (by simp) (z' := (0 : Int32)) (by decide) d9_55 (by decide) (by decide) ?_
  exact ⟨rfl, N8, e8⟩
set_option maxRecDepth 65536 in
set_option maxHeartbeats 40000000 in
theorem rm7_47 (l : Launch) {Z : State} {a0 : Array Value} (H : Hyp Z a0) (a1 : Addr) (a2 : Addr) (p1 : Int32) (k1 : ClassId) (h0 : Heap) (Ol : Old Z Z.heap.size h0) (F_1 : Fld Z h0 a1 "java/lang/String" "coder" "B" (.int (0 : Int32))) (F_2 : Fld Z h0 a1 "java/lang/String" "value" "[B" (.ref a2)) (A_1 : Arv Z h0 a2 k1 .byte (1 : Int32) [(.int p1)] (.int (0 : Int32))) (hc_1 : ¬ ((61 : Int32) = p1)) (ge_1 : Z.heap.size ≤ a1) (E_1 : Exa Z h0 a1 "java/lang/String") (hc_2 : ¬ ((60 : Int32) = p1)) (hc_3 : ¬ ((62 : Int32) = p1)) :
    Mt l Z (⟨"com/example/annotable/annotable/PathQuery$Comparison", "of", "(Ljava/lang/String;)Lcom/example/annotable/annotable/PathQuery$Comparison;"⟩ : MethodName) prog_16_method_6_code 5 (some (.object "com/example/annotable/annotable/PathQuery$Comparison")) [] ({ frames := 2, cells := 1, slots := 6, locals := 28 } : Room) #[(.ref a1)] h0 (fun v h L => (v = some .null ∧ Fr Z.heap.size L ∧ Keep h0 h [])) := by
  refine g_body (plainFor_of_name pn_com_example_annotable_annotable_PathQuery_Comparison) ?_
  intro p e s m below meth c T0 K X0 e0
  refine g_entry (ef_7 m a1) ?_
  have nw_a1 : a1 ∉ [] := nin0
  have nw_a2 : a2 ∉ [] := nin0
  have Ol0 := Ol
  refine g_static X0 K (q := 3) (W := 0) (w36 H) (w37 H) (w34 H) (w38 H) (by decide) (rm8_6 l H h0 Ol0) e0 rfl (argsL := []) (rest := []) (lenOf pd_5 rfl) rfl rfl (Nat.le_of_eq rfl) d7_0 (by decide) (by decide) (by decide) (by decide) rfl ?_
  rintro T1 v1 L1 X1 ⟨bx1, rfl, N1q, Kc1, lz1_0, g1, g2⟩
  have szbx1 := Nat.le_trans (Keep.refl h0 []).1 lz1_0
  have gebx1 := Nat.le_trans Ol0.2.1 lz1_0
  have so1 := Sd.one bx1
  obtain ⟨N1, Ol1, Kp1⟩ := ivK (Fr.nil _) Ol0 (Keep.refl h0 []) N1q Kc1 all0 all0
  show Go p e below _ T1 (mkF m 3 #[.val (.ref a1), .unset, .unset, .unset, .unset] [(.ref bx1)])
  refine g_astoreN X1 K (q := 4) (L' := #[.val (.ref a1), .val (.ref bx1), .unset, .unset, .unset]) d7_3 rfl rfl rfl ?_
  refine g_aloadN X1 K (q := 5) d7_4 rfl rfl rfl ?_
  refine g_len X1 K (q := 6) rfl g1 d7_5 rfl ?_
  refine g_istoreN X1 K (q := 7) (L' := #[.val (.ref a1), .val (.ref bx1), .val (.int (6 : Int32)), .unset, .unset]) d7_6 rfl rfl ?_
  refine g_iconst X1 K (q := 8) (v := (0 : Int32)) d7_7 (by decide) rfl ?_
  refine g_istoreN X1 K (q := 9) (L' := #[.val (.ref a1), .val (.ref bx1), .val (.int (6 : Int32)), .val (.int (0 : Int32)), .unset]) d7_8 rfl rfl ?_
  refine g_iloadN X1 K (q := 10) d7_9 rfl rfl ?_
  refine g_iloadN X1 K (q := 11) d7_10 rfl rfl ?_
  refine g_icN X1 K (q := 14) d7_11 (by decide) rfl ?_
  refine g_aloadN X1 K (q := 15) d7_14 rfl rfl rfl ?_
  refine g_iloadN X1 K (q := 16) d7_15 rfl rfl ?_
  refine g_aald X1 K (q := 17) (v := (.ref (ad1 Z a0))) rfl g1 rfl (by decide) rfl d7_16 rfl ?_
  refine g_astore X1 K (q := 19) (L' := #[.val (.ref a1), .val (.ref bx1), .val (.int (6 : Int32)), .val (.int (0 : Int32)), .val (.ref (ad1 Z a0))]) d7_17 rfl rfl rfl ?_
  refine g_aload X1 K (q := 21) d7_19 rfl rfl rfl ?_
  refine g_getf X1 K (q := 24) (w57 H) Via.refl rfl ((f1_symbol H).ext Ol1.2) d7_21 rfl ?_
  intro T2 X2 e2
  refine g_aloadN X2 K (q := 25) d7_24 rfl rfl rfl ?_
  have f1 := E_1.keep Kp1
  have f2 := F_1.keep Kp1 nw_a1
  have f3 := F_2.keep Kp1 nw_a1
  have f4 := A_1.keep Kp1 nw_a2
  refine g_virtual X2 K (q := 28) (W := 0) (a := (ad7 Z a0)) (w59 H) (w60 H) (nf_self K (w62 H)) (w62 H) (w61 H) (w9 H) (w63 H) (by decide) (rm9_30 l H a1 a2 p1 k1 T1.heap Ol1 ge_1 f1 f2 f3 f4 hc_1) e2 ((x7 H).ext Ol1.2) rfl (argsL := [(.ref a1)]) (rest := []) (lenOf pd_7 rfl) rfl rfl (Nat.le_of_eq rfl) d7_25 (by decide) (by decide) (by decide) (by decide) rfl ?_
  rintro T3 v3 L3 X3 ⟨rfl, N3q, e3⟩
  have N3 := Fr.app N1 N3q
  show Go p e below _ T3 (mkF m 28 #[.val (.ref a1), .val (.ref bx1), .val (.int (6 : Int32)), .val (.int (0 : Int32)), .val (.ref (ad1 Z a0))] [(.int (0 : Int32))])
  refine g_ifY X3 K (q := 34) d7_28 (by decide) (by decide) (by decide) ?_
  refine g_iinc X3 K (q := 37) (z := (1 : Int32)) (L' := #[.val (.ref a1), .val (.ref bx1), .val (.int (6 : Int32)), .val (.int (1 : Int32)), .val (.ref (ad1 Z a0))]) d7_34 rfl (by decide) rfl rfl ?_
  refine g_goto X3 K (q := 9) d7_37 (by decide) (by decide) ?_
  refine g_iloadN X3 K (q := 10) d7_9 rfl rfl ?_
  refine g_iloadN X3 K (q := 11) d7_10 rfl rfl ?_
  refine g_icN X3 K (q := 14) d7_11 (by decide) rfl ?_
  refine g_aloadN X3 K (q := 15) d7_14 rfl rfl rfl ?_
  refine g_iloadN X3 K (q := 16) d7_15 rfl rfl ?_
  refine g_aald X3 K (q := 17) (v := (.ref (ad2 Z a0))) e3 g1 rfl (by decide) rfl d7_16 rfl ?_
  refine g_astore X3 K (q := 19) (L' := #[.val (.ref a1), .val (.ref bx1), .val (.int (6 : Int32)), .val (.int (1 : Int32)), .val (.ref (ad2 Z a0))]) d7_17 rfl rfl rfl ?_
  refine g_aload X3 K (q := 21) d7_19 rfl rfl rfl ?_
  refine g_getf X3 K (q := 24) (w57 H) Via.refl e3 ((f2_symbol H).ext Ol1.2) d7_21 rfl ?_
  intro T4 X4 e4
  refine g_aloadN X4 K (q := 25) d7_24 rfl rfl rfl ?_
  refine g_virtual X4 K (q := 28) (W := 0) (a := (ad8 Z a0)) (w59 H) (w60 H) (nf_self K (w62 H)) (w62 H) (w61 H) (w9 H) (w63 H) (by decide) (rm9_32 l H a1 a2 p1 k1 T1.heap Ol1 ge_1 f1 f2 f3 f4) e4 ((x8 H).ext Ol1.2) rfl (argsL := [(.ref a1)]) (rest := []) (lenOf pd_7 rfl) rfl rfl (Nat.le_of_eq rfl) d7_25 (by decide) (by decide) (by decide) (by decide) rfl ?_
  rintro T5 v5 L5 X5 ⟨rfl, N5q, e5⟩
  have N5 := Fr.app N3 N5q
  show Go p e below _ T5 (mkF m 28 #[.val (.ref a1), .val (.ref bx1), .val (.int (6 : Int32)), .val (.int (1 : Int32)), .val (.ref (ad2 Z a0))] [(.int (0 : Int32))])
  refine g_ifY X5 K (q := 34) d7_28 (by decide) (by decide) (by decide) ?_
  refine g_iinc X5 K (q := 37) (z := (2 : Int32)) (L' := #[.val (.ref a1), .val (.ref bx1), .val (.int (6 : Int32)), .val (.int (2 : Int32)), .val (.ref (ad2 Z a0))]) d7_34 rfl (by decide) rfl rfl ?_
  refine g_goto X5 K (q := 9) d7_37 (by decide) (by decide) ?_
  refine g_iloadN X5 K (q := 10) d7_9 rfl rfl ?_
  refine g_iloadN X5 K (q := 11) d7_10 rfl rfl ?_
  refine g_icN X5 K (q := 14) d7_11 (by decide) rfl ?_
  refine g_aloadN X5 K (q := 15) d7_14 rfl rfl rfl ?_
  refine g_iloadN X5 K (q := 16) d7_15 rfl rfl ?_
  refine g_aald X5 K (q := 17) (v := (.ref (ad3 Z a0))) e5 g1 rfl (by decide) rfl d7_16 rfl ?_
  refine g_astore X5 K (q := 19) (L' := #[.val (.ref a1), .val (.ref bx1), .val (.int (6 : Int32)), .val (.int (2 : Int32)), .val (.ref (ad3 Z a0))]) d7_17 rfl rfl rfl ?_
  refine g_aload X5 K (q := 21) d7_19 rfl rfl rfl ?_
  refine g_getf X5 K (q := 24) (w57 H) Via.refl e5 ((f3_symbol H).ext Ol1.2) d7_21 rfl ?_
  intro T6 X6 e6
  refine g_aloadN X6 K (q := 25) d7_24 rfl rfl rfl ?_
  refine g_virtual X6 K (q := 28) (W := 0) (a := (ad9 Z a0)) (w59 H) (w60 H) (nf_self K (w62 H)) (w62 H) (w61 H) (w9 H) (w63 H) (by decide) (rm9_37 l H a1 a2 p1 k1 T1.heap Ol1 ge_1 f1 f2 f3 f4 hc_2) e6 ((x9 H).ext Ol1.2) rfl (argsL := [(.ref a1)]) (rest := []) (lenOf pd_7 rfl) rfl rfl (Nat.le_of_eq rfl) d7_25 (by decide) (by decide) (by decide) (by decide) rfl ?_
  rintro T7 v7 L7 X7 ⟨rfl, N7q, e7⟩
  have N7 := Fr.app N5 N7q
  show Go p e below _ T7 (mkF m 28 #[.val (.ref a1), .val (.ref bx1), .val (.int (6 : Int32)), .val (.int (2 : Int32)), .val (.ref (ad3 Z a0))] [(.int (0 : Int32))])
  refine g_ifY X7 K (q := 34) d7_28 (by decide) (by decide) (by decide) ?_
  refine g_iinc X7 K (q := 37) (z := (3 : Int32)) (L' := #[.val (.ref a1), .val (.ref bx1), .val (.int (6 : Int32)), .val (.int (3 : Int32)), .val (.ref (ad3 Z a0))]) d7_34 rfl (by decide) rfl rfl ?_
  refine g_goto X7 K (q := 9) d7_37 (by decide) (by decide) ?_
  refine g_iloadN X7 K (q := 10) d7_9 rfl rfl ?_
  refine g_iloadN X7 K (q := 11) d7_10 rfl rfl ?_
  refine g_icN X7 K (q := 14) d7_11 (by decide) rfl ?_
  refine g_aloadN X7 K (q := 15) d7_14 rfl rfl rfl ?_
  refine g_iloadN X7 K (q := 16) d7_15 rfl rfl ?_
  refine g_aald X7 K (q := 17) (v := (.ref (ad4 Z a0))) e7 g1 rfl (by decide) rfl d7_16 rfl ?_
  refine g_astore X7 K (q := 19) (L' := #[.val (.ref a1), .val (.ref bx1), .val (.int (6 : Int32)), .val (.int (3 : Int32)), .val (.ref (ad4 Z a0))]) d7_17 rfl rfl rfl ?_
  refine g_aload X7 K (q := 21) d7_19 rfl rfl rfl ?_
  refine g_getf X7 K (q := 24) (w57 H) Via.refl e7 ((f4_symbol H).ext Ol1.2) d7_21 rfl ?_
  intro T8 X8 e8
  refine g_aloadN X8 K (q := 25) d7_24 rfl rfl rfl ?_
  refine g_virtual X8 K (q := 28) (W := 0) (a := (ad10 Z a0)) (w59 H) (w60 H) (nf_self K (w62 H)) (w62 H) (w61 H) (w9 H) (w63 H) (by decide) (rm9_39 l H a1 a2 p1 k1 T1.heap Ol1 ge_1 f1 f2 f3 f4) e8 ((x10 H).ext Ol1.2) rfl (argsL := [(.ref a1)]) (rest := []) (lenOf pd_7 rfl) rfl rfl (Nat.le_of_eq rfl) d7_25 (by decide) (by decide) (by decide) (by decide) rfl ?_
  rintro T9 v9 L9 X9 ⟨rfl, N9q, e9⟩
  have N9 := Fr.app N7 N9q
  show Go p e below _ T9 (mkF m 28 #[.val (.ref a1), .val (.ref bx1), .val (.int (6 : Int32)), .val (.int (3 : Int32)), .val (.ref (ad4 Z a0))] [(.int (0 : Int32))])
  refine g_ifY X9 K (q := 34) d7_28 (by decide) (by decide) (by decide) ?_
  refine g_iinc X9 K (q := 37) (z := (4 : Int32)) (L' := #[.val (.ref a1), .val (.ref bx1), .val (.int (6 : Int32)), .val (.int (4 : Int32)), .val (.ref (ad4 Z a0))]) d7_34 rfl (by decide) rfl rfl ?_
  refine g_goto X9 K (q := 9) d7_37 (by decide) (by decide) ?_
  refine g_iloadN X9 K (q := 10) d7_9 rfl rfl ?_
  refine g_iloadN X9 K (q := 11) d7_10 rfl rfl ?_
  refine g_icN X9 K (q := 14) d7_11 (by decide) rfl ?_
  refine g_aloadN X9 K (q := 15) d7_14 rfl rfl rfl ?_
  refine g_iloadN X9 K (q := 16) d7_15 rfl rfl ?_
  refine g_aald X9 K (q := 17) (v := (.ref (ad5 Z a0))) e9 g1 rfl (by decide) rfl d7_16 rfl ?_
  refine g_astore X9 K (q := 19) (L' := #[.val (.ref a1), .val (.ref bx1), .val (.int (6 : Int32)), .val (.int (4 : Int32)), .val (.ref (ad5 Z a0))]) d7_17 rfl rfl rfl ?_
  refine g_aload X9 K (q := 21) d7_19 rfl rfl rfl ?_
  refine g_getf X9 K (q := 24) (w57 H) Via.refl e9 ((f5_symbol H).ext Ol1.2) d7_21 rfl ?_
  intro T10 X10 e10
  refine g_aloadN X10 K (q := 25) d7_24 rfl rfl rfl ?_
  refine g_virtual X10 K (q := 28) (W := 0) (a := (ad11 Z a0)) (w59 H) (w60 H) (nf_self K (w62 H)) (w62 H) (w61 H) (w9 H) (w63 H) (by decide) (rm9_44 l H a1 a2 p1 k1 T1.heap Ol1 ge_1 f1 f2 f3 f4 hc_3) e10 ((x11 H).ext Ol1.2) rfl (argsL := [(.ref a1)]) (rest := []) (lenOf pd_7 rfl) rfl rfl (Nat.le_of_eq rfl) d7_25 (by decide) (by decide) (by decide) (by decide) rfl ?_
  rintro T11 v11 L11 X11 ⟨rfl, N11q, e11⟩
  have N11 := Fr.app N9 N11q
  show Go p e below _ T11 (mkF m 28 #[.val (.ref a1), .val (.ref bx1), .val (.int (6 : Int32)), .val (.int (4 : Int32)), .val (.ref (ad5 Z a0))] [(.int (0 : Int32))])
  refine g_ifY X11 K (q := 34) d7_28 (by decide) (by decide) (by decide) ?_
  refine g_iinc X11 K (q := 37) (z := (5 : Int32)) (L' := #[.val (.ref a1), .val (.ref bx1), .val (.int (6 : Int32)), .val (.int (5 : Int32)), .val (.ref (ad5 Z a0))]) d7_34 rfl (by decide) rfl rfl ?_
  refine g_goto X11 K (q := 9) d7_37 (by decide) (by decide) ?_
  refine g_iloadN X11 K (q := 10) d7_9 rfl rfl ?_
  refine g_iloadN X11 K (q := 11) d7_10 rfl rfl ?_
  refine g_icN X11 K (q := 14) d7_11 (by decide) rfl ?_
  refine g_aloadN X11 K (q := 15) d7_14 rfl rfl rfl ?_
  refine g_iloadN X11 K (q := 16) d7_15 rfl rfl ?_
  refine g_aald X11 K (q := 17) (v := (.ref (ad6 Z a0))) e11 g1 rfl (by decide) rfl d7_16 rfl ?_
  refine g_astore X11 K (q := 19) (L' := #[.val (.ref a1), .val (.ref bx1), .val (.int (6 : Int32)), .val (.int (5 : Int32)), .val (.ref (ad6 Z a0))]) d7_17 rfl rfl rfl ?_
  refine g_aload X11 K (q := 21) d7_19 rfl rfl rfl ?_
  refine g_getf X11 K (q := 24) (w57 H) Via.refl e11 ((f6_symbol H).ext Ol1.2) d7_21 rfl ?_
  intro T12 X12 e12
  refine g_aloadN X12 K (q := 25) d7_24 rfl rfl rfl ?_
  refine g_virtual X12 K (q := 28) (W := 0) (a := (ad12 Z a0)) (w59 H) (w60 H) (nf_self K (w62 H)) (w62 H) (w61 H) (w9 H) (w63 H) (by decide) (rm9_46 l H a1 a2 p1 k1 T1.heap Ol1 ge_1 f1 f2 f3 f4) e12 ((x12 H).ext Ol1.2) rfl (argsL := [(.ref a1)]) (rest := []) (lenOf pd_7 rfl) rfl rfl (Nat.le_of_eq rfl) d7_25 (by decide) (by decide) (by decide) (by decide) rfl ?_
  rintro T13 v13 L13 X13 ⟨rfl, N13q, e13⟩
  have N13 := Fr.app N11 N13q
  show Go p e below _ T13 (mkF m 28 #[.val (.ref a1), .val (.ref bx1), .val (.int (6 : Int32)), .val (.int (5 : Int32)), .val (.ref (ad6 Z a0))] [(.int (0 : Int32))])
  refine g_ifY X13 K (q := 34) d7_28 (by decide) (by decide) (by decide) ?_
  refine g_iinc X13 K (q := 37) (z := (6 : Int32)) (L' := #[.val (.ref a1), .val (.ref bx1), .val (.int (6 : Int32)), .val (.int (6 : Int32)), .val (.ref (ad6 Z a0))]) d7_34 rfl (by decide) rfl rfl ?_
  refine g_goto X13 K (q := 9) d7_37 (by decide) (by decide) ?_
  refine g_iloadN X13 K (q := 10) d7_9 rfl rfl ?_
  refine g_iloadN X13 K (q := 11) d7_10 rfl rfl ?_
  refine g_icY X13 K (q := 40) d7_11 (by decide) (by decide) (by decide) ?_
  refine g_null X13 K (q := 41) d7_40 rfl ?_
  refine g_aret X13 K rfl rfl rfl d7_41 (by decide) (by decide) ?_
  have Kp : Keep h0 T13.heap [] := by rw [e13]; exact Kp1
  exact ⟨rfl, N13, Kp⟩
set_option maxRecDepth 65536 in
set_option maxHeartbeats 40000000 in
theorem rm12_48 (l : Launch) {Z : State} {a0 : Array Value} (H : Hyp Z a0) (a1 : Addr) (a2 : Addr) (p1 : Int32) (p2 : Int32) (k1 : ClassId) (k2 : ClassId) (h0 : Heap) (Ol : Old Z Z.heap.size h0) (A_1 : Arv Z h0 a1 k1 .char (2 : Int32) [(.int p1), (.int p2)] (.int (0 : Int32))) (hc_1 : ¬ ((255 : Int32) < p1)) (A_2 : Arv Z h0 a2 k2 .byte (2 : Int32) [(.int (0 : Int32)), (.int (0 : Int32))] (.int (0 : Int32))) (ge_1 : Z.heap.size ≤ a2) (hc_2 : ¬ ((255 : Int32) < p2)) (ne_1 : a1 ≠ a2) :
    Mt l Z (⟨"java/lang/StringUTF16", "compress", "([CI[BII)I"⟩ : MethodName) jdk_52_method_21_code 7 (some .int) [] ({ frames := 0, cells := 0, slots := 0, locals := 0 } : Room) #[(.ref a1), (.int (0 : Int32)), (.ref a2), (.int (0 : Int32)), (.int (2 : Int32))] h0 (fun v h L => (v = some (.int (2 : Int32)) ∧ Fr Z.heap.size L ∧ Keep h0 h [a2] ∧ Arv Z h a2 k2 .byte (2 : Int32) [(.int p1.toInt8.toInt32), (.int p2.toInt8.toInt32)] (.int (0 : Int32)))) := by
  refine g_body (plainFor_of_name pn_java_lang_StringUTF16) ?_
  intro p e s m below meth c T0 K X0 e0
  refine g_entry (ef_12 m a1 a2) ?_
  have nw_a1 : a1 ∉ [a2] := (ninS ne_1 nin0)
  have Ol0 := Ol
  refine g_iconst X0 K (q := 1) (v := (0 : Int32)) d12_0 (by decide) rfl ?_
  refine g_istore X0 K (q := 3) (L' := #[.val (.ref a1), .val (.int (0 : Int32)), .val (.ref a2), .val (.int (0 : Int32)), .val (.int (2 : Int32)), .val (.int (0 : Int32)), .unset]) d12_1 rfl rfl ?_
  refine g_iload X0 K (q := 5) d12_3 rfl rfl ?_
  refine g_iload X0 K (q := 7) d12_5 rfl rfl ?_
  refine g_icN X0 K (q := 10) d12_7 (by decide) rfl ?_
  refine g_aloadN X0 K (q := 11) d12_10 rfl rfl rfl ?_
  refine g_iloadN X0 K (q := 12) d12_11 rfl rfl ?_
  refine g_cald X0 K (q := 13) (v := (.int p1)) e0 A_1 (by decide) rfl d12_12 rfl ?_
  refine g_istore X0 K (q := 15) (L' := #[.val (.ref a1), .val (.int (0 : Int32)), .val (.ref a2), .val (.int (0 : Int32)), .val (.int (2 : Int32)), .val (.int (0 : Int32)), .val (.int p1)]) d12_13 rfl rfl ?_
  refine g_iload X0 K (q := 17) d12_15 rfl rfl ?_
  refine g_sipush X0 K (q := 20) (v := (255 : Int32)) d12_17 (by decide) rfl ?_
  refine g_icY X0 K (q := 26) d12_20 (flt hc_1).2.2.2 (by decide) (by decide) ?_
  refine g_aloadN X0 K (q := 27) d12_26 rfl rfl rfl ?_
  refine g_iloadN X0 K (q := 28) d12_27 rfl rfl ?_
  refine g_iload X0 K (q := 30) d12_28 rfl rfl ?_
  refine g_i2b X0 K (q := 31) d12_30 rfl rfl ?_
  refine g_bast X0 K (q := 32) (z := p1.toInt8.toInt32) (vs' := [(.int p1.toInt8.toInt32), (.int (0 : Int32))]) e0 A_2 (by decide) (Nat.le_of_ble_eq_true rfl) (nar_byte _) rfl d12_31 rfl ?_
  intro T1 h1 X1 e1 W1 F1
  obtain ⟨N1, Ol1, Kp1⟩ := ivW (Fr.nil _) Ol0 (Keep.refl h0 [a2]) X1 W1 ge_1 (Or.inl (List.mem_of_getElem? (i := 0) rfl))
  refine g_iinc X1 K (q := 35) (z := (1 : Int32)) (L' := #[.val (.ref a1), .val (.int (1 : Int32)), .val (.ref a2), .val (.int (0 : Int32)), .val (.int (2 : Int32)), .val (.int (0 : Int32)), .val (.int p1)]) d12_32 rfl (by decide) rfl rfl ?_
  refine g_iinc X1 K (q := 38) (z := (1 : Int32)) (L' := #[.val (.ref a1), .val (.int (1 : Int32)), .val (.ref a2), .val (.int (1 : Int32)), .val (.int (2 : Int32)), .val (.int (0 : Int32)), .val (.int p1)]) d12_35 rfl (by decide) rfl rfl ?_
  refine g_iinc X1 K (q := 41) (z := (1 : Int32)) (L' := #[.val (.ref a1), .val (.int (1 : Int32)), .val (.ref a2), .val (.int (1 : Int32)), .val (.int (2 : Int32)), .val (.int (1 : Int32)), .val (.int p1)]) d12_38 rfl (by decide) rfl rfl ?_
  refine g_goto X1 K (q := 3) d12_41 (by decide) (by decide) ?_
  refine g_iload X1 K (q := 5) d12_3 rfl rfl ?_
  refine g_iload X1 K (q := 7) d12_5 rfl rfl ?_
  refine g_icN X1 K (q := 10) d12_7 (by decide) rfl ?_
  refine g_aloadN X1 K (q := 11) d12_10 rfl rfl rfl ?_
  refine g_iloadN X1 K (q := 12) d12_11 rfl rfl ?_
  have f1 := A_1.keep Kp1 nw_a1
  refine g_cald X1 K (q := 13) (v := (.int p2)) e1 f1 (by decide) rfl d12_12 rfl ?_
  refine g_istore X1 K (q := 15) (L' := #[.val (.ref a1), .val (.int (1 : Int32)), .val (.ref a2), .val (.int (1 : Int32)), .val (.int (2 : Int32)), .val (.int (1 : Int32)), .val (.int p2)]) d12_13 rfl rfl ?_
  refine g_iload X1 K (q := 17) d12_15 rfl rfl ?_
  refine g_sipush X1 K (q := 20) (v := (255 : Int32)) d12_17 (by decide) rfl ?_
  refine g_icY X1 K (q := 26) d12_20 (flt hc_2).2.2.2 (by decide) (by decide) ?_
  refine g_aloadN X1 K (q := 27) d12_26 rfl rfl rfl ?_
  refine g_iloadN X1 K (q := 28) d12_27 rfl rfl ?_
  refine g_iload X1 K (q := 30) d12_28 rfl rfl ?_
  refine g_i2b X1 K (q := 31) d12_30 rfl rfl ?_
  refine g_bast X1 K (q := 32) (z := p2.toInt8.toInt32) (vs' := [(.int p1.toInt8.toInt32), (.int p2.toInt8.toInt32)]) e1 F1 (by decide) (Nat.le_of_ble_eq_true rfl) (nar_byte _) rfl d12_31 rfl ?_
  intro T2 h2 X2 e2 W2 F2
  obtain ⟨N2, Ol2, Kp2⟩ := ivW N1 Ol1 Kp1 X2 W2 ge_1 (Or.inl (List.mem_of_getElem? (i := 0) rfl))
  refine g_iinc X2 K (q := 35) (z := (2 : Int32)) (L' := #[.val (.ref a1), .val (.int (2 : Int32)), .val (.ref a2), .val (.int (1 : Int32)), .val (.int (2 : Int32)), .val (.int (1 : Int32)), .val (.int p2)]) d12_32 rfl (by decide) rfl rfl ?_
  refine g_iinc X2 K (q := 38) (z := (2 : Int32)) (L' := #[.val (.ref a1), .val (.int (2 : Int32)), .val (.ref a2), .val (.int (2 : Int32)), .val (.int (2 : Int32)), .val (.int (1 : Int32)), .val (.int p2)]) d12_35 rfl (by decide) rfl rfl ?_
  refine g_iinc X2 K (q := 41) (z := (2 : Int32)) (L' := #[.val (.ref a1), .val (.int (2 : Int32)), .val (.ref a2), .val (.int (2 : Int32)), .val (.int (2 : Int32)), .val (.int (2 : Int32)), .val (.int p2)]) d12_38 rfl (by decide) rfl rfl ?_
  refine g_goto X2 K (q := 3) d12_41 (by decide) (by decide) ?_
  refine g_iload X2 K (q := 5) d12_3 rfl rfl ?_
  refine g_iload X2 K (q := 7) d12_5 rfl rfl ?_
  refine g_icY X2 K (q := 44) d12_7 (by decide) (by decide) (by decide) ?_
  refine g_iload X2 K (q := 46) d12_44 rfl rfl ?_
  refine g_iret X2 K d12_46 (by decide) (by decide) ?_
  have Kp : Keep h0 T2.heap [a2] := by rw [e2]; exact Kp2
  exact ⟨rfl, N2, Kp, (by rw [e2]; exact F2)⟩
set_option maxRecDepth 65536 in
set_option maxHeartbeats 40000000 in
theorem rm11_49 (l : Launch) {Z : State} {a0 : Array Value} (H : Hyp Z a0) (a1 : Addr) (p1 : Int32) (p2 : Int32) (k1 : ClassId) (h0 : Heap) (Ol : Old Z Z.heap.size h0) (A_1 : Arv Z h0 a1 k1 .char (2 : Int32) [(.int p1), (.int p2)] (.int (0 : Int32))) (hc_1 : ¬ ((255 : Int32) < p1)) (hc_2 : ¬ ((255 : Int32) < p2)) :
    Mt l Z (⟨"java/lang/StringUTF16", "compress", "([CII)[B"⟩ : MethodName) jdk_52_method_16_code 6 (some (.array .byte)) [] ({ frames := 1, cells := 1, slots := 2, locals := 18 } : Room) #[(.ref a1), (.int (0 : Int32)), (.int (2 : Int32))] h0 (fun v h L => (∃ (b1 : Addr), ∃ (kA1 : ClassId), v = some (.ref b1) ∧ Fr Z.heap.size L ∧ Keep h0 h [] ∧ h0.size ≤ b1 ∧ Arv Z h b1 kA1 .byte (2 : Int32) [(.int p1.toInt8.toInt32), (.int p2.toInt8.toInt32)] (.int (0 : Int32)))) := by
  refine g_body (plainFor_of_name pn_java_lang_StringUTF16) ?_
  intro p e s m below meth c T0 K X0 e0
  refine g_entry (ef_13 m a1) ?_
  have nw_a1 : a1 ∉ [] := nin0
  have Ol0 := Ol
  refine g_iloadN X0 K (q := 1) d11_0 rfl rfl ?_
  refine g_newp X0 K (q := 3) (cap := 2) (ty := .byte) (vs := [(.int (0 : Int32)), (.int (0 : Int32))]) (w22 H) rfl e0 d11_1 (by decide) (by decide) rfl (by decide) (by decide) (by decide) rfl ?_
  intro T1 h1 b1 kA1 X1 e1 E1 z1 A1
  obtain ⟨sz1, ge1, Ol1, Kp1⟩ := ivE Ol0 (Keep.refl h0 []) E1 z1
  have so1 := Sd.one b1
  refine g_astoreN X1 K (q := 4) (L' := #[.val (.ref a1), .val (.int (0 : Int32)), .val (.int (2 : Int32)), .val (.ref b1), .unset, .unset]) d11_3 rfl rfl rfl ?_
  refine g_aloadN X1 K (q := 5) d11_4 rfl rfl rfl ?_
  refine g_iloadN X1 K (q := 6) d11_5 rfl rfl ?_
  refine g_aloadN X1 K (q := 7) d11_6 rfl rfl rfl ?_
  refine g_iconst X1 K (q := 8) (v := (0 : Int32)) d11_7 (by decide) rfl ?_
  refine g_iloadN X1 K (q := 9) d11_8 rfl rfl ?_
  have f1 := A_1.keep Kp1 nw_a1
  have ne1 : a1 ≠ b1 := (Nat.ne_of_lt (Nat.lt_of_lt_of_le A_1.lt sz1))
  refine g_static X1 K (q := 12) (W := 0) (w74 H) (w75 H) (w72 H) (w76 H) (by decide) (rm12_48 l H a1 b1 p1 p2 k1 kA1 h1 Ol1 f1 hc_1 A1 ge1 hc_2 ne1) e1 rfl (argsL := [(.ref a1), (.int (0 : Int32)), (.ref b1), (.int (0 : Int32)), (.int (2 : Int32))]) (rest := []) (lenOf pd_13 rfl) rfl rfl (Nat.le_of_eq rfl) d11_9 (by decide) (by decide) (by decide) (by decide) rfl ?_
  rintro T2 v2 L2 X2 ⟨rfl, N2q, Kc2, g1⟩
  obtain ⟨N2, Ol2, Kp2⟩ := ivK (Fr.nil _) Ol1 Kp1 N2q Kc2 (allS ge1 all0) (kaS (Or.inr sz1) all0)
  show Go p e below _ T2 (mkF m 12 #[.val (.ref a1), .val (.int (0 : Int32)), .val (.int (2 : Int32)), .val (.ref b1), .unset, .unset] [(.int (2 : Int32))])
  refine g_istore X2 K (q := 14) (L' := #[.val (.ref a1), .val (.int (0 : Int32)), .val (.int (2 : Int32)), .val (.ref b1), .val (.int (2 : Int32)), .unset]) d11_12 rfl rfl ?_
  refine g_iload X2 K (q := 16) d11_14 rfl rfl ?_
  refine g_iloadN X2 K (q := 17) d11_16 rfl rfl ?_
  refine g_icY X2 K (q := 57) d11_17 (by decide) (by decide) (by decide) ?_
  refine g_aloadN X2 K (q := 58) d11_57 rfl rfl rfl ?_
  refine g_aret X2 K rfl rfl rfl d11_58 (by decide) (by decide) ?_
  exact ⟨b1, kA1, rfl, N2, Kp2, sz1, g1⟩
set_option maxRecDepth 65536 in
set_option maxHeartbeats 40000000 in
theorem rm13_50 (l : Launch) {Z : State} {a0 : Array Value} (H : Hyp Z a0) (a1 : Addr) (p1 : Int32) (p2 : Int32) (k1 : ClassId) (h0 : Heap) (Ol : Old Z Z.heap.size h0) (A_1 : Arv Z h0 a1 k1 .byte (2 : Int32) [(.int p1), (.int p2)] (.int (0 : Int32))) :
    Mt l Z (⟨"java/lang/StringUTF16", "coderFromArrayLen", "([BI)B"⟩ : MethodName) jdk_52_method_15_code 2 (some .byte) [] ({ frames := 0, cells := 0, slots := 0, locals := 0 } : Room) #[(.ref a1), (.int (2 : Int32))] h0 (fun v h L => (v = some (.int (0 : Int32)) ∧ Fr Z.heap.size L ∧ h = h0)) := by
  refine g_body (plainFor_of_name pn_java_lang_StringUTF16) ?_
  intro p e s m below meth c T0 K X0 e0
  refine g_entry (ef_14 m a1) ?_
  have Ol0 := Ol
  refine g_iloadN X0 K (q := 1) d13_0 rfl rfl ?_
  refine g_aloadN X0 K (q := 2) d13_1 rfl rfl rfl ?_
  refine g_len X0 K (q := 3) e0 A_1 d13_2 rfl ?_
  refine g_isub X0 K (q := 4) d13_3 (z := (0 : Int32)) (by decide) rfl ?_
  refine g_bipush X0 K (q := 6) (v := (31 : Int32)) d13_4 (by decide) rfl ?_
  refine g_iushr X0 K (q := 7) d13_6 (z := (0 : Int32)) (by decide) rfl ?_
  refine g_i2b X0 K (q := 8) d13_7 (z := (0 : Int32)) (by decide) rfl ?_
  refine g_nret X0 K (by simp) (z' := (0 : Int32)) (by decide) d13_8 (by decide) (by decide) ?_
  exact ⟨rfl, (Fr.nil _), e0⟩
set_option maxRecDepth 65536 in
set_option maxHeartbeats 40000000 in
theorem rm4_51 (l : Launch) {Z : State} {a0 : Array Value} (H : Hyp Z a0) (a1 : Addr) (a2 : Addr) (p1 : Int32) (p2 : Int32) (k1 : ClassId) (h0 : Heap) (Ol : Old Z Z.heap.size h0) (A_1 : Arv Z h0 a2 k1 .char (2 : Int32) [(.int p1), (.int p2)] (.int (0 : Int32))) (hc_1 : ¬ ((255 : Int32) < p1)) (hc_2 : ¬ ((255 : Int32) < p2)) (E_1 : Exa Z h0 a1 "java/lang/String") (F_1 : Fld Z h0 a1 "java/lang/String" "value" "[B" .null) (F_2 : Fld Z h0 a1 "java/lang/String" "coder" "B" (.int (0 : Int32))) (ge_1 : Z.heap.size ≤ a1) :
    Mt l Z (⟨"java/lang/String", "<init>", "([CIILjava/lang/Void;)V"⟩ : MethodName) jdk_42_method_149_code 6 none [] ({ frames := 2, cells := 1, slots := 2, locals := 35 } : Room) #[(.ref a1), (.ref a2), (.int (0 : Int32)), (.int (2 : Int32)), .null] h0 (fun v h L => (∃ (bx1 : Addr), ∃ (kB1 : ClassId), v = none ∧ Fr Z.heap.size L ∧ Keep h0 h [a1] ∧ h0.size ≤ bx1 ∧ Exa Z h a1 "java/lang/String" ∧ Fld Z h a1 "java/lang/String" "value" "[B" (.ref bx1) ∧ Fld Z h a1 "java/lang/String" "coder" "B" (.int (0 : Int32)) ∧ Arv Z h bx1 kB1 .byte (2 : Int32) [(.int p1.toInt8.toInt32), (.int p2.toInt8.toInt32)] (.int (0 : Int32)))) := by
  refine g_body (plainFor_of_name pn_java_lang_String) ?_
  intro p e s m below meth c T0 K X0 e0
  refine g_entry (ef_15 m a1 a2) ?_
  have Ol0 := Ol
  refine g_aloadN X0 K (q := 1) d4_0 rfl rfl rfl ?_
  refine g_init X0 K (q := 4) (W := 0) (w18 H) (w19 H) (w20 H) e0 rfl d4_1 (by decide) (Nat.le_of_eq rfl) (by decide) rfl ?_
  intro T1 X1 e1
  refine g_iloadN X1 K (q := 5) d4_4 rfl rfl ?_
  refine g_ifY X1 K (q := 27) d4_5 (by decide) (by decide) (by decide) ?_
  refine g_gets X1 K (q := 30) (w65 H) e1 ((ivs0 H).ext Ol0.2) d4_27 rfl ?_
  intro T2 X2 e2
  refine g_ifN X2 K (q := 33) d4_30 (feq (ivn0 H)).1 rfl ?_
  refine g_aloadN X2 K (q := 34) d4_33 rfl rfl rfl ?_
  refine g_iloadN X2 K (q := 35) d4_34 rfl rfl ?_
  refine g_iloadN X2 K (q := 36) d4_35 rfl rfl ?_
  refine g_static X2 K (q := 39) (W := 0) (w70 H) (w71 H) (w72 H) (w73 H) (by decide) (rm11_49 l H a2 p1 p2 k1 h0 Ol0 A_1 hc_1 hc_2) e2 rfl (argsL := [(.ref a2), (.int (0 : Int32)), (.int (2 : Int32))]) (rest := []) (lenOf pd_14 rfl) rfl rfl (Nat.le_of_eq rfl) d4_36 (by decide) (by decide) (by decide) (by decide) rfl ?_
  rintro T3 v3 L3 X3 ⟨bx1, kB1, rfl, N3q, Kc3, lz3_0, g1⟩
  have szbx1 := Nat.le_trans (Keep.refl h0 [a1]).1 lz3_0
  have gebx1 := Nat.le_trans Ol0.2.1 lz3_0
  have so1 := Sd.one bx1
  obtain ⟨N3, Ol3, Kp3⟩ := ivK (Fr.nil _) Ol0 (Keep.refl h0 [a1]) N3q Kc3 all0 all0
  show Go p e below _ T3 (mkF m 39 #[.val (.ref a1), .val (.ref a2), .val (.int (0 : Int32)), .val (.int (2 : Int32)), .val .null, .unset] [(.ref bx1)])
  refine g_astore X3 K (q := 41) (L' := #[.val (.ref a1), .val (.ref a2), .val (.int (0 : Int32)), .val (.int (2 : Int32)), .val .null, .val (.ref bx1)]) d4_39 rfl rfl rfl ?_
  refine g_aloadN X3 K (q := 42) d4_41 rfl rfl rfl ?_
  refine g_aload X3 K (q := 44) d4_42 rfl rfl rfl ?_
  refine g_iloadN X3 K (q := 45) d4_44 rfl rfl ?_
  refine g_static X3 K (q := 48) (W := 1) (w77 H) (w78 H) (w72 H) (w79 H) (by decide) (rm13_50 l H bx1 p1.toInt8.toInt32 p2.toInt8.toInt32 kB1 T3.heap Ol3 g1) rfl rfl (argsL := [(.ref bx1), (.int (2 : Int32))]) (rest := [(.ref a1)]) (lenOf pd_15 rfl) rfl rfl (Nat.le_of_eq rfl) d4_45 (by decide) (by decide) (by decide) (by decide) rfl ?_
  rintro T4 v4 L4 X4 ⟨rfl, N4q, e4⟩
  have N4 := Fr.app N3 N4q
  show Go p e below _ T4 (mkF m 48 #[.val (.ref a1), .val (.ref a2), .val (.int (0 : Int32)), .val (.int (2 : Int32)), .val .null, .val (.ref bx1)] [(.int (0 : Int32)), (.ref a1)])
  have f1 := (F_2.keep Kc3 nin0)
  have f2 := (E_1.keep Kc3)
  refine g_putf X4 K (q := 51) (w28 H) Via.refl e4 f1 f2 (Or.inr ⟨(w24 H), rfl, rfl⟩) (w8 H) (ty := .byte) (by decide) rfl rfl d4_48 rfl ?_
  intro T5 h5 X5 e5 W5 F5
  obtain ⟨N5, Ol5, Kp5⟩ := ivW N4 Ol3 Kp3 X5 W5 ge_1 (Or.inl (List.mem_of_getElem? (i := 0) rfl))
  refine g_aloadN X5 K (q := 52) d4_51 rfl rfl rfl ?_
  refine g_aload X5 K (q := 54) d4_52 rfl rfl rfl ?_
  have f3 := ((F_1.keep Kc3 nin0).other W5 (Or.inr (lne (la1 H) (la0 H) (by decide))))
  have f4 := (f2.wr W5)
  refine g_putf X5 K (q := 57) (w27 H) Via.refl e5 f3 f4 (Or.inr ⟨(w23 H), rfl, rfl⟩) (w8 H) (ty := (.array .byte)) (by decide) rfl rfl d4_54 rfl ?_
  intro T6 h6 X6 e6 W6 F6
  obtain ⟨N6, Ol6, Kp6⟩ := ivW N5 Ol5 Kp5 X6 W6 ge_1 (Or.inl (List.mem_of_getElem? (i := 0) rfl))
  refine g_ret X6 K d4_57 (by decide) (by decide) ?_
  have Kp : Keep h0 T6.heap [a1] := by rw [e6]; exact Kp6
  have f5 := (f4.wr W6)
  have f6 := (F5.other W6 (Or.inr (lne (la0 H) (la1 H) (by decide))))
  have ne1 : a1 ≠ bx1 := (Nat.ne_of_lt (Nat.lt_of_lt_of_le E_1.lt szbx1))
  have f7 := ((g1.other W5 (Ne.symm ne1)).other W6 (Ne.symm ne1))
  exact ⟨bx1, kB1, rfl, N6, Kp, szbx1, (by rw [e6]; exact f5), (by rw [e6]; exact F6), (by rw [e6]; exact f6), (by rw [e6]; exact f7)⟩
set_option maxRecDepth 65536 in
set_option maxHeartbeats 40000000 in
theorem rm3_52 (l : Launch) {Z : State} {a0 : Array Value} (H : Hyp Z a0) (a1 : Addr) (a2 : Addr) (p1 : Int32) (p2 : Int32) (k1 : ClassId) (h0 : Heap) (Ol : Old Z Z.heap.size h0) (A_1 : Arv Z h0 a2 k1 .char (2 : Int32) [(.int p1), (.int p2)] (.int (0 : Int32))) (hc_1 : ¬ ((255 : Int32) < p1)) (hc_2 : ¬ ((255 : Int32) < p2)) (F_1 : Fld Z h0 a1 "java/lang/String" "value" "[B" .null) (F_2 : Fld Z h0 a1 "java/lang/String" "coder" "B" (.int (0 : Int32))) (E_1 : Exa Z h0 a1 "java/lang/String") (ge_1 : Z.heap.size ≤ a1) :
    Mt l Z (⟨"java/lang/String", "<init>", "([C)V"⟩ : MethodName) jdk_42_method_3_code 2 none [] ({ frames := 3, cells := 1, slots := 2, locals := 52 } : Room) #[(.ref a1), (.ref a2)] h0 (fun v h L => (∃ (bx1 : Addr), ∃ (kB1 : ClassId), v = none ∧ Fr Z.heap.size L ∧ Keep h0 h [a1] ∧ h0.size ≤ bx1 ∧ Exa Z h a1 "java/lang/String" ∧ Fld Z h a1 "java/lang/String" "value" "[B" (.ref bx1) ∧ Fld Z h a1 "java/lang/String" "coder" "B" (.int (0 : Int32)) ∧ Arv Z h bx1 kB1 .byte (2 : Int32) [(.int p1.toInt8.toInt32), (.int p2.toInt8.toInt32)] (.int (0 : Int32)))) := by
  refine g_body (plainFor_of_name pn_java_lang_String) ?_
  intro p e s m below meth c T0 K X0 e0
  refine g_entry (ef_1 m a1 a2) ?_
  have Ol0 := Ol
  refine g_aloadN X0 K (q := 1) d3_0 rfl rfl rfl ?_
  refine g_aloadN X0 K (q := 2) d3_1 rfl rfl rfl ?_
  refine g_iconst X0 K (q := 3) (v := (0 : Int32)) d3_2 (by decide) rfl ?_
  refine g_aloadN X0 K (q := 4) d3_3 rfl rfl rfl ?_
  refine g_len X0 K (q := 5) e0 A_1 d3_4 rfl ?_
  refine g_null X0 K (q := 6) d3_5 rfl ?_
  refine g_special X0 K (q := 9) (W := 0) (a := a1) rfl (w14 H) (w15 H) (w9 H) (w17 H) (by decide) (rm4_51 l H a1 a2 p1 p2 k1 h0 Ol0 A_1 hc_1 hc_2 E_1 F_1 F_2 ge_1) e0 rfl (argsL := [(.ref a2), (.int (0 : Int32)), (.int (2 : Int32)), .null]) (rest := []) (lenOf pd_0 rfl) rfl rfl (Nat.le_of_eq rfl) d3_6 (by decide) (by decide) (by decide) (by decide) rfl ?_
  rintro T1 v1 L1 X1 ⟨bx1, kB1, rfl, N1q, Kc1, lz1_0, g1, g2, g3, g4⟩
  have szbx1 := Nat.le_trans (Keep.refl h0 [a1]).1 lz1_0
  have gebx1 := Nat.le_trans Ol0.2.1 lz1_0
  have so1 := Sd.one bx1
  obtain ⟨N1, Ol1, Kp1⟩ := ivK (Fr.nil _) Ol0 (Keep.refl h0 [a1]) N1q Kc1 (allS ge_1 all0) (kaS (Or.inl (List.mem_of_getElem? (i := 0) rfl)) all0)
  show Go p e below _ T1 (mkF m 9 #[.val (.ref a1), .val (.ref a2)] [])
  refine g_ret X1 K d3_9 (by decide) (by decide) ?_
  exact ⟨bx1, kB1, rfl, N1, Kp1, szbx1, g1, g2, g3, g4⟩
set_option maxRecDepth 65536 in
set_option maxHeartbeats 40000000 in
theorem rm2_53 (l : Launch) {Z : State} {a0 : Array Value} (H : Hyp Z a0) (p1 : Int32) (p2 : Int32) (p3 : Int32) (h0 : Heap) (Ol : Old Z Z.heap.size h0) (hc_1 : nar .char p1 = p1) (hc_2 : nar .char p2 = p2) (hc_3 : ¬ ((255 : Int32) < p1)) (hc_4 : ¬ ((255 : Int32) < p2)) :
    Mt l Z (⟨"com/example/annotable/annotable/ComparisonOfPinLaw", "make", "(ICCC)Ljava/lang/String;"⟩ : MethodName) method_4_code 4 (some (.object "java/lang/String")) [] ({ frames := 4, cells := 3, slots := 8, locals := 66 } : Room) #[(.int (2 : Int32)), (.int p1), (.int p2), (.int p3)] h0 (fun v h L => (∃ (b1 : Addr), ∃ (bx1 : Addr), ∃ (kB1 : ClassId), v = some (.ref b1) ∧ Fr Z.heap.size L ∧ Keep h0 h [] ∧ h0.size ≤ b1 ∧ b1 < bx1 ∧ Exa Z h b1 "java/lang/String" ∧ Fld Z h b1 "java/lang/String" "value" "[B" (.ref bx1) ∧ Fld Z h b1 "java/lang/String" "coder" "B" (.int (0 : Int32)) ∧ Arv Z h bx1 kB1 .byte (2 : Int32) [(.int p1.toInt8.toInt32), (.int p2.toInt8.toInt32)] (.int (0 : Int32)))) := by
  refine g_body (plainFor_of_name pn_com_example_annotable_annotable_ComparisonOfPinLaw) ?_
  intro p e s m below meth c T0 K X0 e0
  refine g_entry (ef_16 m p1 p2 p3) ?_
  have Ol0 := Ol
  refine g_iloadN X0 K (q := 1) d2_0 rfl rfl ?_
  refine g_ifY X0 K (q := 15) d2_1 (by decide) (by decide) (by decide) ?_
  refine g_iloadN X0 K (q := 16) d2_15 rfl rfl ?_
  refine g_iconst X0 K (q := 17) (v := (1 : Int32)) d2_16 (by decide) rfl ?_
  refine g_icY X0 K (q := 25) d2_17 (by decide) (by decide) (by decide) ?_
  refine g_iloadN X0 K (q := 26) d2_25 rfl rfl ?_
  refine g_iconst X0 K (q := 27) (v := (2 : Int32)) d2_26 (by decide) rfl ?_
  refine g_icN X0 K (q := 30) d2_27 (by decide) rfl ?_
  refine g_new X0 K (q := 33) (w7 H) (w8 H) (w9 H) e0 d2_30 (by decide) (by decide) rfl ?_
  intro T1 h1 b1 X1 e1 E1 z1 A1 D1
  obtain ⟨sz1, ge1, Ol1, Kp1⟩ := ivE Ol0 (Keep.refl h0 []) E1 z1
  have so1 := Sd.one b1
  have F1_value : Fld Z h1 b1 "java/lang/String" "value" "[B" .null := D1 (Or.inr (w23 H)) (ty := (.array .byte)) (by decide)
  have F1_coder : Fld Z h1 b1 "java/lang/String" "coder" "B" (.int (0 : Int32)) := D1 (Or.inr (w24 H)) (ty := .byte) (by decide)
  refine g_dup X1 K (q := 34) d2_33 rfl rfl ?_
  refine g_iconst X1 K (q := 35) (v := (2 : Int32)) d2_34 (by decide) rfl ?_
  refine g_newp X1 K (q := 37) (cap := 2) (ty := .char) (vs := [(.int (0 : Int32)), (.int (0 : Int32))]) (w10 H) rfl e1 d2_35 (by decide) (by decide) rfl (by decide) (by decide) (by decide) rfl ?_
  intro T2 h2 b2 kA2 X2 e2 E2 z2 A2
  obtain ⟨sz2, ge2, Ol2, Kp2⟩ := ivE Ol1 Kp1 E2 z2
  have lk2 := Nat.lt_of_lt_of_eq A1.lt z2
  have so2 := so1.cons lk2
  refine g_dup X2 K (q := 38) d2_37 rfl rfl ?_
  refine g_iconst X2 K (q := 39) (v := (0 : Int32)) d2_38 (by decide) rfl ?_
  refine g_iloadN X2 K (q := 40) d2_39 rfl rfl ?_
  refine g_cst X2 K (q := 41) (z := p1) (vs' := [(.int p1), (.int (0 : Int32))]) e2 A2 (by decide) (Nat.le_of_ble_eq_true rfl) hc_1 rfl d2_40 rfl ?_
  intro T3 h3 X3 e3 W3 F3
  obtain ⟨N3, Ol3, Kp3⟩ := ivW (Fr.nil _) Ol2 Kp2 X3 W3 ge2 (Or.inr sz2)
  refine g_dup X3 K (q := 42) d2_41 rfl rfl ?_
  refine g_iconst X3 K (q := 43) (v := (1 : Int32)) d2_42 (by decide) rfl ?_
  refine g_iloadN X3 K (q := 44) d2_43 rfl rfl ?_
  refine g_cst X3 K (q := 45) (z := p2) (vs' := [(.int p1), (.int p2)]) e3 F3 (by decide) (Nat.le_of_ble_eq_true rfl) hc_2 rfl d2_44 rfl ?_
  intro T4 h4 X4 e4 W4 F4
  obtain ⟨N4, Ol4, Kp4⟩ := ivW N3 Ol3 Kp3 X4 W4 ge2 (Or.inr sz2)
  have ne1 := so2.ne 1 0 rfl rfl rfl
  have f1 := (((F1_value.ext E2).other W3 (Or.inl ne1)).other W4 (Or.inl ne1))
  have f2 := (((F1_coder.ext E2).other W3 (Or.inl ne1)).other W4 (Or.inl ne1))
  have f3 := (((A1.ext E2).wr W3).wr W4)
  refine g_special X4 K (q := 48) (W := 1) (a := b1) rfl (w11 H) (w12 H) (w9 H) (w13 H) (by decide) (rm3_52 l H b1 b2 p1 p2 kA2 h4 Ol4 F4 hc_3 hc_4 f1 f2 f3 ge1) e4 rfl (argsL := [(.ref b2)]) (rest := [(.ref b1)]) (lenOf pd_1 rfl) rfl rfl (Nat.le_of_eq rfl) d2_45 (by decide) (by decide) (by decide) (by decide) rfl ?_
  rintro T5 v5 L5 X5 ⟨bx1, kB1, rfl, N5q, Kc5, lz5_0, g1, g2, g3, g4⟩
  have szbx1 := Nat.le_trans Kp4.1 lz5_0
  have gebx1 := Nat.le_trans Ol4.2.1 lz5_0
  have lkbx1 : b2 < bx1 := Nat.lt_of_lt_of_le F4.lt lz5_0
  have so3 := so2.cons lkbx1
  obtain ⟨N5, Ol5, Kp5⟩ := ivK N4 Ol4 Kp4 N5q Kc5 (allS ge1 all0) (kaS (Or.inr sz1) all0)
  show Go p e below _ T5 (mkF m 48 #[.val (.int (2 : Int32)), .val (.int p1), .val (.int p2), .val (.int p3)] [(.ref b1)])
  refine g_aret X5 K rfl rfl rfl d2_48 (by decide) (by decide) ?_
  exact ⟨b1, bx1, kB1, rfl, N5, Kp5, sz1, (so3.lt 0 2 rfl rfl rfl), g1, g2, g3, g4⟩
set_option maxRecDepth 65536 in
set_option maxHeartbeats 40000000 in
theorem rm6_54 (l : Launch) {Z : State} {a0 : Array Value} (H : Hyp Z a0) (p1 : Int32) (p2 : Int32) (h0 : Heap) (Ol : Old Z Z.heap.size h0) :
    Mt l Z (⟨"com/example/annotable/annotable/ComparisonOfPinLaw", "expected", "(ICC)Lcom/example/annotable/annotable/PathQuery$Comparison;"⟩ : MethodName) method_5_code 3 (some (.object "com/example/annotable/annotable/PathQuery$Comparison")) [] ({ frames := 0, cells := 0, slots := 0, locals := 0 } : Room) #[(.int (2 : Int32)), (.int p1), (.int p2)] h0 (fun v h L => (p2 = (61 : Int32) ∧ p1 = (33 : Int32) ∧ v = some (.ref (ad2 Z a0)) ∧ Fr Z.heap.size L ∧ h = h0) ∨ (p2 = (61 : Int32) ∧ ¬ (p1 = (33 : Int32)) ∧ p1 = (60 : Int32) ∧ v = some (.ref (ad4 Z a0)) ∧ Fr Z.heap.size L ∧ h = h0) ∨ (p2 = (61 : Int32) ∧ ¬ (p1 = (33 : Int32)) ∧ ¬ (p1 = (60 : Int32)) ∧ p1 = (62 : Int32) ∧ v = some (.ref (ad6 Z a0)) ∧ Fr Z.heap.size L ∧ h = h0) ∨ (p2 = (61 : Int32) ∧ ¬ (p1 = (33 : Int32)) ∧ ¬ (p1 = (60 : Int32)) ∧ ¬ (p1 = (62 : Int32)) ∧ v = some .null ∧ Fr Z.heap.size L ∧ h = h0) ∨ (¬ (p2 = (61 : Int32)) ∧ v = some .null ∧ Fr Z.heap.size L ∧ h = h0)) := by
  refine g_body (plainFor_of_name pn_com_example_annotable_annotable_ComparisonOfPinLaw) ?_
  intro p e s m below meth c T0 K X0 e0
  refine g_entry (ef_17 m p1 p2) ?_
  have Ol0 := Ol
  refine g_iloadN X0 K (q := 1) d6_0 rfl rfl ?_
  refine g_iconst X0 K (q := 2) (v := (1 : Int32)) d6_1 (by decide) rfl ?_
  refine g_icY X0 K (q := 37) d6_2 (by decide) (by decide) (by decide) ?_
  refine g_iloadN X0 K (q := 38) d6_37 rfl rfl ?_
  refine g_iconst X0 K (q := 39) (v := (2 : Int32)) d6_38 (by decide) rfl ?_
  refine g_icN X0 K (q := 42) d6_39 (by decide) rfl ?_
  refine g_iloadN X0 K (q := 43) d6_42 rfl rfl ?_
  refine g_bipush X0 K (q := 45) (v := (61 : Int32)) d6_43 (by decide) rfl ?_
  by_cases hc1 : p2 = (61 : Int32)
  · refine g_icN X0 K (q := 48) d6_45 (teq hc1).2 rfl ?_
    refine g_iloadN X0 K (q := 49) d6_48 rfl rfl ?_
    refine g_bipush X0 K (q := 51) (v := (33 : Int32)) d6_49 (by decide) rfl ?_
    by_cases hc2 : p1 = (33 : Int32)
    · refine g_icN X0 K (q := 54) d6_51 (teq hc2).2 rfl ?_
      refine g_gets X0 K (q := 57) (w96 H) e0 ((s2 H).ext Ol0.2) d6_54 rfl ?_
      intro T1 X1 e1
      refine g_aret X1 K rfl rfl rfl d6_57 (by decide) (by decide) ?_
      exact Or.inl (⟨hc1, hc2, rfl, (Fr.nil _), e1⟩)
    · refine g_icY X0 K (q := 58) d6_51 (feq hc2).2 (by decide) (by decide) ?_
      refine g_iloadN X0 K (q := 59) d6_58 rfl rfl ?_
      refine g_bipush X0 K (q := 61) (v := (60 : Int32)) d6_59 (by decide) rfl ?_
      by_cases hc3 : p1 = (60 : Int32)
      · refine g_icN X0 K (q := 64) d6_61 (teq hc3).2 rfl ?_
        refine g_gets X0 K (q := 67) (w97 H) e0 ((s4 H).ext Ol0.2) d6_64 rfl ?_
        intro T2 X2 e2
        refine g_aret X2 K rfl rfl rfl d6_67 (by decide) (by decide) ?_
        exact Or.inr (Or.inl (⟨hc1, hc2, hc3, rfl, (Fr.nil _), e2⟩))
      · refine g_icY X0 K (q := 68) d6_61 (feq hc3).2 (by decide) (by decide) ?_
        refine g_iloadN X0 K (q := 69) d6_68 rfl rfl ?_
        refine g_bipush X0 K (q := 71) (v := (62 : Int32)) d6_69 (by decide) rfl ?_
        by_cases hc4 : p1 = (62 : Int32)
        · refine g_icN X0 K (q := 74) d6_71 (teq hc4).2 rfl ?_
          refine g_gets X0 K (q := 77) (w93 H) e0 ((s6 H).ext Ol0.2) d6_74 rfl ?_
          intro T3 X3 e3
          refine g_aret X3 K rfl rfl rfl d6_77 (by decide) (by decide) ?_
          exact Or.inr (Or.inr (Or.inl (⟨hc1, hc2, hc3, hc4, rfl, (Fr.nil _), e3⟩)))
        · refine g_icY X0 K (q := 78) d6_71 (feq hc4).2 (by decide) (by decide) ?_
          refine g_null X0 K (q := 79) d6_78 rfl ?_
          refine g_aret X0 K rfl rfl rfl d6_79 (by decide) (by decide) ?_
          exact Or.inr (Or.inr (Or.inr (Or.inl (⟨hc1, hc2, hc3, hc4, rfl, (Fr.nil _), e0⟩))))
  · refine g_icY X0 K (q := 80) d6_45 (feq hc1).2 (by decide) (by decide) ?_
    refine g_null X0 K (q := 81) d6_80 rfl ?_
    refine g_aret X0 K rfl rfl rfl d6_81 (by decide) (by decide) ?_
    exact Or.inr (Or.inr (Or.inr (Or.inr (⟨hc1, rfl, (Fr.nil _), e0⟩))))
set_option maxRecDepth 65536 in
set_option maxHeartbeats 40000000 in
theorem rm10_55 (l : Launch) {Z : State} {a0 : Array Value} (H : Hyp Z a0) (a1 : Addr) (p1 : Int32) (p2 : Int32) (k1 : ClassId) (h0 : Heap) (Ol : Old Z Z.heap.size h0) (A_1 : Arv Z h0 a1 k1 .byte (2 : Int32) [(.int p1), (.int p2)] (.int (0 : Int32))) :
    Mt l Z (⟨"java/lang/StringLatin1", "equals", "([B[B)Z"⟩ : MethodName) jdk_43_method_13_code 3 (some .boolean) [] ({ frames := 0, cells := 0, slots := 0, locals := 0 } : Room) #[(.ref (ad13 Z a0)), (.ref a1)] h0 (fun v h L => (v = some (.int (0 : Int32)) ∧ Fr Z.heap.size L ∧ h = h0)) := by
  refine g_body (plainFor_of_name pn_java_lang_StringLatin1) ?_
  intro p e s m below meth c T0 K X0 e0
  refine g_entry (ef_6 m (ad13 Z a0) a1) ?_
  have Ol0 := Ol
  refine g_aloadN X0 K (q := 1) d10_0 rfl rfl rfl ?_
  refine g_len X0 K (q := 2) e0 ((v13 H).ext Ol0.2) d10_1 rfl ?_
  refine g_aloadN X0 K (q := 3) d10_2 rfl rfl rfl ?_
  refine g_len X0 K (q := 4) e0 A_1 d10_3 rfl ?_
  refine g_icY X0 K (q := 34) d10_4 (by decide) (by decide) (by decide) ?_
  refine g_iconst X0 K (q := 35) (v := (0 : Int32)) d10_34 (by decide) rfl ?_
  refine g_nret X0 K (by simp) (z' := (0 : Int32)) (by decide) d10_35 (by decide) (by decide) ?_
  exact ⟨rfl, (Fr.nil _), e0⟩
set_option maxRecDepth 65536 in
set_option maxHeartbeats 40000000 in
theorem rm9_56 (l : Launch) {Z : State} {a0 : Array Value} (H : Hyp Z a0) (a1 : Addr) (a2 : Addr) (p1 : Int32) (p2 : Int32) (k1 : ClassId) (h0 : Heap) (Ol : Old Z Z.heap.size h0) (ge_1 : Z.heap.size ≤ a1) (E_1 : Exa Z h0 a1 "java/lang/String") (F_1 : Fld Z h0 a1 "java/lang/String" "coder" "B" (.int (0 : Int32))) (F_2 : Fld Z h0 a1 "java/lang/String" "value" "[B" (.ref a2)) (A_1 : Arv Z h0 a2 k1 .byte (2 : Int32) [(.int p1), (.int p2)] (.int (0 : Int32))) :
    Mt l Z (⟨"java/lang/String", "equals", "(Ljava/lang/Object;)Z"⟩ : MethodName) jdk_42_method_66_code 3 (some .boolean) [] ({ frames := 1, cells := 0, slots := 0, locals := 14 } : Room) #[(.ref (ad7 Z a0)), (.ref a1)] h0 (fun v h L => (v = some (.int (0 : Int32)) ∧ Fr Z.heap.size L ∧ h = h0)) := by
  refine g_body (plainFor_of_name pn_java_lang_String) ?_
  intro p e s m below meth c T0 K X0 e0
  refine g_entry (ef_6 m (ad7 Z a0) a1) ?_
  have Ol0 := Ol
  refine g_aloadN X0 K (q := 1) d9_0 rfl rfl rfl ?_
  refine g_aloadN X0 K (q := 2) d9_1 rfl rfl rfl ?_
  have ne1 : (ad7 Z a0) ≠ a1 := (Nat.ne_of_lt (Nat.lt_of_lt_of_le (f7_value H).lt ge_1))
  refine g_ac X0 K (q := 7) (same := false) d9_2 rfl rfl (decide_eq_false fun q => ne1 (Value.ref.inj q)) (by decide) (by decide) ?_
  refine g_aloadN X0 K (q := 8) d9_7 rfl rfl rfl ?_
  refine g_instY X0 K (q := 11) (w64 H) e0 (Ins.self E_1) d9_8 rfl ?_
  intro T1 X1 e1
  refine g_ifN X1 K (q := 14) d9_11 (by decide) rfl ?_
  refine g_aloadN X1 K (q := 15) d9_14 rfl rfl rfl ?_
  refine g_cast X1 K (q := 18) (w64 H) e1 (Ins.self E_1) d9_15 rfl ?_
  intro T2 X2 e2
  refine g_astoreN X2 K (q := 19) (L' := #[.val (.ref (ad7 Z a0)), .val (.ref a1), .val (.ref a1)]) d9_18 rfl rfl rfl ?_
  refine g_gets X2 K (q := 22) (w65 H) e2 ((ivs0 H).ext Ol0.2) d9_19 rfl ?_
  intro T3 X3 e3
  refine g_ifN X3 K (q := 25) d9_22 (feq (ivn0 H)).1 rfl ?_
  refine g_aloadN X3 K (q := 26) d9_25 rfl rfl rfl ?_
  refine g_getf X3 K (q := 29) (w28 H) Via.refl e3 ((f7_coder H).ext Ol0.2) d9_26 rfl ?_
  intro T4 X4 e4
  refine g_aloadN X4 K (q := 30) d9_29 rfl rfl rfl ?_
  refine g_getf X4 K (q := 33) (w28 H) Via.refl e4 F_1 d9_30 rfl ?_
  intro T5 X5 e5
  refine g_icN X5 K (q := 36) d9_33 (by decide) rfl ?_
  refine g_aloadN X5 K (q := 37) d9_36 rfl rfl rfl ?_
  refine g_getf X5 K (q := 40) (w27 H) Via.refl e5 ((f7_value H).ext Ol0.2) d9_37 rfl ?_
  intro T6 X6 e6
  refine g_aloadN X6 K (q := 41) d9_40 rfl rfl rfl ?_
  refine g_getf X6 K (q := 44) (w27 H) Via.refl e6 F_2 d9_41 rfl ?_
  intro T7 X7 e7
  refine g_static X7 K (q := 47) (W := 0) (w66 H) (w67 H) (w68 H) (w69 H) (by decide) (rm10_55 l H a2 p1 p2 k1 h0 Ol0 A_1) e7 rfl (argsL := [(.ref (ad13 Z a0)), (.ref a2)]) (rest := []) (lenOf pd_6 rfl) rfl rfl (Nat.le_of_eq rfl) d9_44 (by decide) (by decide) (by decide) (by decide) rfl ?_
  rintro T8 v8 L8 X8 ⟨rfl, N8q, e8⟩
  have N8 := Fr.app (Fr.nil _) N8q
  show Go p e below _ T8 (mkF m 47 #[.val (.ref (ad7 Z a0)), .val (.ref a1), .val (.ref a1)] [(.int (0 : Int32))])
  refine g_ifY X8 K (q := 54) d9_47 (by decide) (by decide) (by decide) ?_
  refine g_iconst X8 K (q := 55) (v := (0 : Int32)) d9_54 (by decide) rfl ?_
  refine g_nret X8 K (by simp) (z' := (0 : Int32)) (by decide) d9_55 (by decide) (by decide) ?_
  exact ⟨rfl, N8, e8⟩
set_option maxRecDepth 65536 in
set_option maxHeartbeats 40000000 in
theorem rm10_57 (l : Launch) {Z : State} {a0 : Array Value} (H : Hyp Z a0) (a1 : Addr) (p1 : Int32) (p2 : Int32) (k1 : ClassId) (h0 : Heap) (Ol : Old Z Z.heap.size h0) (A_1 : Arv Z h0 a1 k1 .byte (2 : Int32) [(.int p1), (.int p2)] (.int (0 : Int32))) (hc_1 : (33 : Int32) = p1) (hc_2 : (61 : Int32) = p2) :
    Mt l Z (⟨"java/lang/StringLatin1", "equals", "([B[B)Z"⟩ : MethodName) jdk_43_method_13_code 3 (some .boolean) [] ({ frames := 0, cells := 0, slots := 0, locals := 0 } : Room) #[(.ref (ad14 Z a0)), (.ref a1)] h0 (fun v h L => (v = some (.int (1 : Int32)) ∧ Fr Z.heap.size L ∧ h = h0)) := by
  refine g_body (plainFor_of_name pn_java_lang_StringLatin1) ?_
  intro p e s m below meth c T0 K X0 e0
  refine g_entry (ef_6 m (ad14 Z a0) a1) ?_
  have Ol0 := Ol
  refine g_aloadN X0 K (q := 1) d10_0 rfl rfl rfl ?_
  refine g_len X0 K (q := 2) e0 ((v14 H).ext Ol0.2) d10_1 rfl ?_
  refine g_aloadN X0 K (q := 3) d10_2 rfl rfl rfl ?_
  refine g_len X0 K (q := 4) e0 A_1 d10_3 rfl ?_
  refine g_icN X0 K (q := 7) d10_4 (by decide) rfl ?_
  refine g_iconst X0 K (q := 8) (v := (0 : Int32)) d10_7 (by decide) rfl ?_
  refine g_istoreN X0 K (q := 9) (L' := #[.val (.ref (ad14 Z a0)), .val (.ref a1), .val (.int (0 : Int32))]) d10_8 rfl rfl ?_
  refine g_iloadN X0 K (q := 10) d10_9 rfl rfl ?_
  refine g_aloadN X0 K (q := 11) d10_10 rfl rfl rfl ?_
  refine g_len X0 K (q := 12) e0 ((v14 H).ext Ol0.2) d10_11 rfl ?_
  refine g_icN X0 K (q := 15) d10_12 (by decide) rfl ?_
  refine g_aloadN X0 K (q := 16) d10_15 rfl rfl rfl ?_
  refine g_iloadN X0 K (q := 17) d10_16 rfl rfl ?_
  refine g_bald X0 K (q := 18) (v := (.int (33 : Int32))) e0 ((v14 H).ext Ol0.2) (by decide) rfl d10_17 rfl ?_
  refine g_aloadN X0 K (q := 19) d10_18 rfl rfl rfl ?_
  refine g_iloadN X0 K (q := 20) d10_19 rfl rfl ?_
  refine g_bald X0 K (q := 21) (v := (.int p1)) e0 A_1 (by decide) rfl d10_20 rfl ?_
  refine g_icY X0 K (q := 26) d10_21 (teq hc_1).1 (by decide) (by decide) ?_
  refine g_iinc X0 K (q := 29) (z := (1 : Int32)) (L' := #[.val (.ref (ad14 Z a0)), .val (.ref a1), .val (.int (1 : Int32))]) d10_26 rfl (by decide) rfl rfl ?_
  refine g_goto X0 K (q := 9) d10_29 (by decide) (by decide) ?_
  refine g_iloadN X0 K (q := 10) d10_9 rfl rfl ?_
  refine g_aloadN X0 K (q := 11) d10_10 rfl rfl rfl ?_
  refine g_len X0 K (q := 12) e0 ((v14 H).ext Ol0.2) d10_11 rfl ?_
  refine g_icN X0 K (q := 15) d10_12 (by decide) rfl ?_
  refine g_aloadN X0 K (q := 16) d10_15 rfl rfl rfl ?_
  refine g_iloadN X0 K (q := 17) d10_16 rfl rfl ?_
  refine g_bald X0 K (q := 18) (v := (.int (61 : Int32))) e0 ((v14 H).ext Ol0.2) (by decide) rfl d10_17 rfl ?_
  refine g_aloadN X0 K (q := 19) d10_18 rfl rfl rfl ?_
  refine g_iloadN X0 K (q := 20) d10_19 rfl rfl ?_
  refine g_bald X0 K (q := 21) (v := (.int p2)) e0 A_1 (by decide) rfl d10_20 rfl ?_
  refine g_icY X0 K (q := 26) d10_21 (teq hc_2).1 (by decide) (by decide) ?_
  refine g_iinc X0 K (q := 29) (z := (2 : Int32)) (L' := #[.val (.ref (ad14 Z a0)), .val (.ref a1), .val (.int (2 : Int32))]) d10_26 rfl (by decide) rfl rfl ?_
  refine g_goto X0 K (q := 9) d10_29 (by decide) (by decide) ?_
  refine g_iloadN X0 K (q := 10) d10_9 rfl rfl ?_
  refine g_aloadN X0 K (q := 11) d10_10 rfl rfl rfl ?_
  refine g_len X0 K (q := 12) e0 ((v14 H).ext Ol0.2) d10_11 rfl ?_
  refine g_icY X0 K (q := 32) d10_12 (by decide) (by decide) (by decide) ?_
  refine g_iconst X0 K (q := 33) (v := (1 : Int32)) d10_32 (by decide) rfl ?_
  refine g_nret X0 K (by simp) (z' := (1 : Int32)) (by decide) d10_33 (by decide) (by decide) ?_
  exact ⟨rfl, (Fr.nil _), e0⟩
set_option maxRecDepth 65536 in
set_option maxHeartbeats 40000000 in
theorem rm9_58 (l : Launch) {Z : State} {a0 : Array Value} (H : Hyp Z a0) (a1 : Addr) (a2 : Addr) (p1 : Int32) (p2 : Int32) (k1 : ClassId) (h0 : Heap) (Ol : Old Z Z.heap.size h0) (ge_1 : Z.heap.size ≤ a1) (E_1 : Exa Z h0 a1 "java/lang/String") (F_1 : Fld Z h0 a1 "java/lang/String" "coder" "B" (.int (0 : Int32))) (F_2 : Fld Z h0 a1 "java/lang/String" "value" "[B" (.ref a2)) (A_1 : Arv Z h0 a2 k1 .byte (2 : Int32) [(.int p1), (.int p2)] (.int (0 : Int32))) (hc_1 : (33 : Int32) = p1) (hc_2 : (61 : Int32) = p2) :
    Mt l Z (⟨"java/lang/String", "equals", "(Ljava/lang/Object;)Z"⟩ : MethodName) jdk_42_method_66_code 3 (some .boolean) [] ({ frames := 1, cells := 0, slots := 0, locals := 14 } : Room) #[(.ref (ad8 Z a0)), (.ref a1)] h0 (fun v h L => (v = some (.int (1 : Int32)) ∧ Fr Z.heap.size L ∧ h = h0)) := by
  refine g_body (plainFor_of_name pn_java_lang_String) ?_
  intro p e s m below meth c T0 K X0 e0
  refine g_entry (ef_6 m (ad8 Z a0) a1) ?_
  have Ol0 := Ol
  refine g_aloadN X0 K (q := 1) d9_0 rfl rfl rfl ?_
  refine g_aloadN X0 K (q := 2) d9_1 rfl rfl rfl ?_
  have ne1 : (ad8 Z a0) ≠ a1 := (Nat.ne_of_lt (Nat.lt_of_lt_of_le (f8_value H).lt ge_1))
  refine g_ac X0 K (q := 7) (same := false) d9_2 rfl rfl (decide_eq_false fun q => ne1 (Value.ref.inj q)) (by decide) (by decide) ?_
  refine g_aloadN X0 K (q := 8) d9_7 rfl rfl rfl ?_
  refine g_instY X0 K (q := 11) (w64 H) e0 (Ins.self E_1) d9_8 rfl ?_
  intro T1 X1 e1
  refine g_ifN X1 K (q := 14) d9_11 (by decide) rfl ?_
  refine g_aloadN X1 K (q := 15) d9_14 rfl rfl rfl ?_
  refine g_cast X1 K (q := 18) (w64 H) e1 (Ins.self E_1) d9_15 rfl ?_
  intro T2 X2 e2
  refine g_astoreN X2 K (q := 19) (L' := #[.val (.ref (ad8 Z a0)), .val (.ref a1), .val (.ref a1)]) d9_18 rfl rfl rfl ?_
  refine g_gets X2 K (q := 22) (w65 H) e2 ((ivs0 H).ext Ol0.2) d9_19 rfl ?_
  intro T3 X3 e3
  refine g_ifN X3 K (q := 25) d9_22 (feq (ivn0 H)).1 rfl ?_
  refine g_aloadN X3 K (q := 26) d9_25 rfl rfl rfl ?_
  refine g_getf X3 K (q := 29) (w28 H) Via.refl e3 ((f8_coder H).ext Ol0.2) d9_26 rfl ?_
  intro T4 X4 e4
  refine g_aloadN X4 K (q := 30) d9_29 rfl rfl rfl ?_
  refine g_getf X4 K (q := 33) (w28 H) Via.refl e4 F_1 d9_30 rfl ?_
  intro T5 X5 e5
  refine g_icN X5 K (q := 36) d9_33 (by decide) rfl ?_
  refine g_aloadN X5 K (q := 37) d9_36 rfl rfl rfl ?_
  refine g_getf X5 K (q := 40) (w27 H) Via.refl e5 ((f8_value H).ext Ol0.2) d9_37 rfl ?_
  intro T6 X6 e6
  refine g_aloadN X6 K (q := 41) d9_40 rfl rfl rfl ?_
  refine g_getf X6 K (q := 44) (w27 H) Via.refl e6 F_2 d9_41 rfl ?_
  intro T7 X7 e7
  refine g_static X7 K (q := 47) (W := 0) (w66 H) (w67 H) (w68 H) (w69 H) (by decide) (rm10_57 l H a2 p1 p2 k1 h0 Ol0 A_1 hc_1 hc_2) e7 rfl (argsL := [(.ref (ad14 Z a0)), (.ref a2)]) (rest := []) (lenOf pd_6 rfl) rfl rfl (Nat.le_of_eq rfl) d9_44 (by decide) (by decide) (by decide) (by decide) rfl ?_
  rintro T8 v8 L8 X8 ⟨rfl, N8q, e8⟩
  have N8 := Fr.app (Fr.nil _) N8q
  show Go p e below _ T8 (mkF m 47 #[.val (.ref (ad8 Z a0)), .val (.ref a1), .val (.ref a1)] [(.int (1 : Int32))])
  refine g_ifN X8 K (q := 50) d9_47 (by decide) rfl ?_
  refine g_iconst X8 K (q := 51) (v := (1 : Int32)) d9_50 (by decide) rfl ?_
  refine g_goto X8 K (q := 55) d9_51 (by decide) (by decide) ?_
  refine g_nret X8 K (by simp) (z' := (1 : Int32)) (by decide) d9_55 (by decide) (by decide) ?_
  exact ⟨rfl, N8, e8⟩
set_option maxRecDepth 65536 in
set_option maxHeartbeats 40000000 in
theorem rm7_59 (l : Launch) {Z : State} {a0 : Array Value} (H : Hyp Z a0) (a1 : Addr) (a2 : Addr) (p1 : Int32) (p2 : Int32) (k1 : ClassId) (h0 : Heap) (Ol : Old Z Z.heap.size h0) (F_1 : Fld Z h0 a1 "java/lang/String" "coder" "B" (.int (0 : Int32))) (F_2 : Fld Z h0 a1 "java/lang/String" "value" "[B" (.ref a2)) (A_1 : Arv Z h0 a2 k1 .byte (2 : Int32) [(.int p1), (.int p2)] (.int (0 : Int32))) (ge_1 : Z.heap.size ≤ a1) (E_1 : Exa Z h0 a1 "java/lang/String") (hc_1 : (33 : Int32) = p1) (hc_2 : (61 : Int32) = p2) :
    Mt l Z (⟨"com/example/annotable/annotable/PathQuery$Comparison", "of", "(Ljava/lang/String;)Lcom/example/annotable/annotable/PathQuery$Comparison;"⟩ : MethodName) prog_16_method_6_code 5 (some (.object "com/example/annotable/annotable/PathQuery$Comparison")) [] ({ frames := 2, cells := 1, slots := 6, locals := 28 } : Room) #[(.ref a1)] h0 (fun v h L => (v = some (.ref (ad2 Z a0)) ∧ Fr Z.heap.size L ∧ Keep h0 h [])) := by
  refine g_body (plainFor_of_name pn_com_example_annotable_annotable_PathQuery_Comparison) ?_
  intro p e s m below meth c T0 K X0 e0
  refine g_entry (ef_7 m a1) ?_
  have nw_a1 : a1 ∉ [] := nin0
  have nw_a2 : a2 ∉ [] := nin0
  have Ol0 := Ol
  refine g_static X0 K (q := 3) (W := 0) (w36 H) (w37 H) (w34 H) (w38 H) (by decide) (rm8_6 l H h0 Ol0) e0 rfl (argsL := []) (rest := []) (lenOf pd_5 rfl) rfl rfl (Nat.le_of_eq rfl) d7_0 (by decide) (by decide) (by decide) (by decide) rfl ?_
  rintro T1 v1 L1 X1 ⟨bx1, rfl, N1q, Kc1, lz1_0, g1, g2⟩
  have szbx1 := Nat.le_trans (Keep.refl h0 []).1 lz1_0
  have gebx1 := Nat.le_trans Ol0.2.1 lz1_0
  have so1 := Sd.one bx1
  obtain ⟨N1, Ol1, Kp1⟩ := ivK (Fr.nil _) Ol0 (Keep.refl h0 []) N1q Kc1 all0 all0
  show Go p e below _ T1 (mkF m 3 #[.val (.ref a1), .unset, .unset, .unset, .unset] [(.ref bx1)])
  refine g_astoreN X1 K (q := 4) (L' := #[.val (.ref a1), .val (.ref bx1), .unset, .unset, .unset]) d7_3 rfl rfl rfl ?_
  refine g_aloadN X1 K (q := 5) d7_4 rfl rfl rfl ?_
  refine g_len X1 K (q := 6) rfl g1 d7_5 rfl ?_
  refine g_istoreN X1 K (q := 7) (L' := #[.val (.ref a1), .val (.ref bx1), .val (.int (6 : Int32)), .unset, .unset]) d7_6 rfl rfl ?_
  refine g_iconst X1 K (q := 8) (v := (0 : Int32)) d7_7 (by decide) rfl ?_
  refine g_istoreN X1 K (q := 9) (L' := #[.val (.ref a1), .val (.ref bx1), .val (.int (6 : Int32)), .val (.int (0 : Int32)), .unset]) d7_8 rfl rfl ?_
  refine g_iloadN X1 K (q := 10) d7_9 rfl rfl ?_
  refine g_iloadN X1 K (q := 11) d7_10 rfl rfl ?_
  refine g_icN X1 K (q := 14) d7_11 (by decide) rfl ?_
  refine g_aloadN X1 K (q := 15) d7_14 rfl rfl rfl ?_
  refine g_iloadN X1 K (q := 16) d7_15 rfl rfl ?_
  refine g_aald X1 K (q := 17) (v := (.ref (ad1 Z a0))) rfl g1 rfl (by decide) rfl d7_16 rfl ?_
  refine g_astore X1 K (q := 19) (L' := #[.val (.ref a1), .val (.ref bx1), .val (.int (6 : Int32)), .val (.int (0 : Int32)), .val (.ref (ad1 Z a0))]) d7_17 rfl rfl rfl ?_
  refine g_aload X1 K (q := 21) d7_19 rfl rfl rfl ?_
  refine g_getf X1 K (q := 24) (w57 H) Via.refl rfl ((f1_symbol H).ext Ol1.2) d7_21 rfl ?_
  intro T2 X2 e2
  refine g_aloadN X2 K (q := 25) d7_24 rfl rfl rfl ?_
  have f1 := E_1.keep Kp1
  have f2 := F_1.keep Kp1 nw_a1
  have f3 := F_2.keep Kp1 nw_a1
  have f4 := A_1.keep Kp1 nw_a2
  refine g_virtual X2 K (q := 28) (W := 0) (a := (ad7 Z a0)) (w59 H) (w60 H) (nf_self K (w62 H)) (w62 H) (w61 H) (w9 H) (w63 H) (by decide) (rm9_56 l H a1 a2 p1 p2 k1 T1.heap Ol1 ge_1 f1 f2 f3 f4) e2 ((x7 H).ext Ol1.2) rfl (argsL := [(.ref a1)]) (rest := []) (lenOf pd_7 rfl) rfl rfl (Nat.le_of_eq rfl) d7_25 (by decide) (by decide) (by decide) (by decide) rfl ?_
  rintro T3 v3 L3 X3 ⟨rfl, N3q, e3⟩
  have N3 := Fr.app N1 N3q
  show Go p e below _ T3 (mkF m 28 #[.val (.ref a1), .val (.ref bx1), .val (.int (6 : Int32)), .val (.int (0 : Int32)), .val (.ref (ad1 Z a0))] [(.int (0 : Int32))])
  refine g_ifY X3 K (q := 34) d7_28 (by decide) (by decide) (by decide) ?_
  refine g_iinc X3 K (q := 37) (z := (1 : Int32)) (L' := #[.val (.ref a1), .val (.ref bx1), .val (.int (6 : Int32)), .val (.int (1 : Int32)), .val (.ref (ad1 Z a0))]) d7_34 rfl (by decide) rfl rfl ?_
  refine g_goto X3 K (q := 9) d7_37 (by decide) (by decide) ?_
  refine g_iloadN X3 K (q := 10) d7_9 rfl rfl ?_
  refine g_iloadN X3 K (q := 11) d7_10 rfl rfl ?_
  refine g_icN X3 K (q := 14) d7_11 (by decide) rfl ?_
  refine g_aloadN X3 K (q := 15) d7_14 rfl rfl rfl ?_
  refine g_iloadN X3 K (q := 16) d7_15 rfl rfl ?_
  refine g_aald X3 K (q := 17) (v := (.ref (ad2 Z a0))) e3 g1 rfl (by decide) rfl d7_16 rfl ?_
  refine g_astore X3 K (q := 19) (L' := #[.val (.ref a1), .val (.ref bx1), .val (.int (6 : Int32)), .val (.int (1 : Int32)), .val (.ref (ad2 Z a0))]) d7_17 rfl rfl rfl ?_
  refine g_aload X3 K (q := 21) d7_19 rfl rfl rfl ?_
  refine g_getf X3 K (q := 24) (w57 H) Via.refl e3 ((f2_symbol H).ext Ol1.2) d7_21 rfl ?_
  intro T4 X4 e4
  refine g_aloadN X4 K (q := 25) d7_24 rfl rfl rfl ?_
  refine g_virtual X4 K (q := 28) (W := 0) (a := (ad8 Z a0)) (w59 H) (w60 H) (nf_self K (w62 H)) (w62 H) (w61 H) (w9 H) (w63 H) (by decide) (rm9_58 l H a1 a2 p1 p2 k1 T1.heap Ol1 ge_1 f1 f2 f3 f4 hc_1 hc_2) e4 ((x8 H).ext Ol1.2) rfl (argsL := [(.ref a1)]) (rest := []) (lenOf pd_7 rfl) rfl rfl (Nat.le_of_eq rfl) d7_25 (by decide) (by decide) (by decide) (by decide) rfl ?_
  rintro T5 v5 L5 X5 ⟨rfl, N5q, e5⟩
  have N5 := Fr.app N3 N5q
  show Go p e below _ T5 (mkF m 28 #[.val (.ref a1), .val (.ref bx1), .val (.int (6 : Int32)), .val (.int (1 : Int32)), .val (.ref (ad2 Z a0))] [(.int (1 : Int32))])
  refine g_ifN X5 K (q := 31) d7_28 (by decide) rfl ?_
  refine g_aload X5 K (q := 33) d7_31 rfl rfl rfl ?_
  refine g_aret X5 K rfl rfl rfl d7_33 (by decide) (by decide) ?_
  have Kp : Keep h0 T5.heap [] := by rw [e5]; exact Kp1
  exact ⟨rfl, N5, Kp⟩
set_option maxRecDepth 65536 in
set_option maxHeartbeats 40000000 in
theorem rm10_60 (l : Launch) {Z : State} {a0 : Array Value} (H : Hyp Z a0) (a1 : Addr) (p1 : Int32) (p2 : Int32) (k1 : ClassId) (h0 : Heap) (Ol : Old Z Z.heap.size h0) (A_1 : Arv Z h0 a1 k1 .byte (2 : Int32) [(.int p1), (.int p2)] (.int (0 : Int32))) (hc_1 : ¬ ((33 : Int32) = p1)) :
    Mt l Z (⟨"java/lang/StringLatin1", "equals", "([B[B)Z"⟩ : MethodName) jdk_43_method_13_code 3 (some .boolean) [] ({ frames := 0, cells := 0, slots := 0, locals := 0 } : Room) #[(.ref (ad14 Z a0)), (.ref a1)] h0 (fun v h L => (v = some (.int (0 : Int32)) ∧ Fr Z.heap.size L ∧ h = h0)) := by
  refine g_body (plainFor_of_name pn_java_lang_StringLatin1) ?_
  intro p e s m below meth c T0 K X0 e0
  refine g_entry (ef_6 m (ad14 Z a0) a1) ?_
  have Ol0 := Ol
  refine g_aloadN X0 K (q := 1) d10_0 rfl rfl rfl ?_
  refine g_len X0 K (q := 2) e0 ((v14 H).ext Ol0.2) d10_1 rfl ?_
  refine g_aloadN X0 K (q := 3) d10_2 rfl rfl rfl ?_
  refine g_len X0 K (q := 4) e0 A_1 d10_3 rfl ?_
  refine g_icN X0 K (q := 7) d10_4 (by decide) rfl ?_
  refine g_iconst X0 K (q := 8) (v := (0 : Int32)) d10_7 (by decide) rfl ?_
  refine g_istoreN X0 K (q := 9) (L' := #[.val (.ref (ad14 Z a0)), .val (.ref a1), .val (.int (0 : Int32))]) d10_8 rfl rfl ?_
  refine g_iloadN X0 K (q := 10) d10_9 rfl rfl ?_
  refine g_aloadN X0 K (q := 11) d10_10 rfl rfl rfl ?_
  refine g_len X0 K (q := 12) e0 ((v14 H).ext Ol0.2) d10_11 rfl ?_
  refine g_icN X0 K (q := 15) d10_12 (by decide) rfl ?_
  refine g_aloadN X0 K (q := 16) d10_15 rfl rfl rfl ?_
  refine g_iloadN X0 K (q := 17) d10_16 rfl rfl ?_
  refine g_bald X0 K (q := 18) (v := (.int (33 : Int32))) e0 ((v14 H).ext Ol0.2) (by decide) rfl d10_17 rfl ?_
  refine g_aloadN X0 K (q := 19) d10_18 rfl rfl rfl ?_
  refine g_iloadN X0 K (q := 20) d10_19 rfl rfl ?_
  refine g_bald X0 K (q := 21) (v := (.int p1)) e0 A_1 (by decide) rfl d10_20 rfl ?_
  refine g_icN X0 K (q := 24) d10_21 (feq hc_1).1 rfl ?_
  refine g_iconst X0 K (q := 25) (v := (0 : Int32)) d10_24 (by decide) rfl ?_
  refine g_nret X0 K (by simp) (z' := (0 : Int32)) (by decide) d10_25 (by decide) (by decide) ?_
  exact ⟨rfl, (Fr.nil _), e0⟩
set_option maxRecDepth 65536 in
set_option maxHeartbeats 40000000 in
theorem rm9_61 (l : Launch) {Z : State} {a0 : Array Value} (H : Hyp Z a0) (a1 : Addr) (a2 : Addr) (p1 : Int32) (p2 : Int32) (k1 : ClassId) (h0 : Heap) (Ol : Old Z Z.heap.size h0) (ge_1 : Z.heap.size ≤ a1) (E_1 : Exa Z h0 a1 "java/lang/String") (F_1 : Fld Z h0 a1 "java/lang/String" "coder" "B" (.int (0 : Int32))) (F_2 : Fld Z h0 a1 "java/lang/String" "value" "[B" (.ref a2)) (A_1 : Arv Z h0 a2 k1 .byte (2 : Int32) [(.int p1), (.int p2)] (.int (0 : Int32))) (hc_1 : ¬ ((33 : Int32) = p1)) :
    Mt l Z (⟨"java/lang/String", "equals", "(Ljava/lang/Object;)Z"⟩ : MethodName) jdk_42_method_66_code 3 (some .boolean) [] ({ frames := 1, cells := 0, slots := 0, locals := 14 } : Room) #[(.ref (ad8 Z a0)), (.ref a1)] h0 (fun v h L => (v = some (.int (0 : Int32)) ∧ Fr Z.heap.size L ∧ h = h0)) := by
  refine g_body (plainFor_of_name pn_java_lang_String) ?_
  intro p e s m below meth c T0 K X0 e0
  refine g_entry (ef_6 m (ad8 Z a0) a1) ?_
  have Ol0 := Ol
  refine g_aloadN X0 K (q := 1) d9_0 rfl rfl rfl ?_
  refine g_aloadN X0 K (q := 2) d9_1 rfl rfl rfl ?_
  have ne1 : (ad8 Z a0) ≠ a1 := (Nat.ne_of_lt (Nat.lt_of_lt_of_le (f8_value H).lt ge_1))
  refine g_ac X0 K (q := 7) (same := false) d9_2 rfl rfl (decide_eq_false fun q => ne1 (Value.ref.inj q)) (by decide) (by decide) ?_
  refine g_aloadN X0 K (q := 8) d9_7 rfl rfl rfl ?_
  refine g_instY X0 K (q := 11) (w64 H) e0 (Ins.self E_1) d9_8 rfl ?_
  intro T1 X1 e1
  refine g_ifN X1 K (q := 14) d9_11 (by decide) rfl ?_
  refine g_aloadN X1 K (q := 15) d9_14 rfl rfl rfl ?_
  refine g_cast X1 K (q := 18) (w64 H) e1 (Ins.self E_1) d9_15 rfl ?_
  intro T2 X2 e2
  refine g_astoreN X2 K (q := 19) (L' := #[.val (.ref (ad8 Z a0)), .val (.ref a1), .val (.ref a1)]) d9_18 rfl rfl rfl ?_
  refine g_gets X2 K (q := 22) (w65 H) e2 ((ivs0 H).ext Ol0.2) d9_19 rfl ?_
  intro T3 X3 e3
  refine g_ifN X3 K (q := 25) d9_22 (feq (ivn0 H)).1 rfl ?_
  refine g_aloadN X3 K (q := 26) d9_25 rfl rfl rfl ?_
  refine g_getf X3 K (q := 29) (w28 H) Via.refl e3 ((f8_coder H).ext Ol0.2) d9_26 rfl ?_
  intro T4 X4 e4
  refine g_aloadN X4 K (q := 30) d9_29 rfl rfl rfl ?_
  refine g_getf X4 K (q := 33) (w28 H) Via.refl e4 F_1 d9_30 rfl ?_
  intro T5 X5 e5
  refine g_icN X5 K (q := 36) d9_33 (by decide) rfl ?_
  refine g_aloadN X5 K (q := 37) d9_36 rfl rfl rfl ?_
  refine g_getf X5 K (q := 40) (w27 H) Via.refl e5 ((f8_value H).ext Ol0.2) d9_37 rfl ?_
  intro T6 X6 e6
  refine g_aloadN X6 K (q := 41) d9_40 rfl rfl rfl ?_
  refine g_getf X6 K (q := 44) (w27 H) Via.refl e6 F_2 d9_41 rfl ?_
  intro T7 X7 e7
  refine g_static X7 K (q := 47) (W := 0) (w66 H) (w67 H) (w68 H) (w69 H) (by decide) (rm10_60 l H a2 p1 p2 k1 h0 Ol0 A_1 hc_1) e7 rfl (argsL := [(.ref (ad14 Z a0)), (.ref a2)]) (rest := []) (lenOf pd_6 rfl) rfl rfl (Nat.le_of_eq rfl) d9_44 (by decide) (by decide) (by decide) (by decide) rfl ?_
  rintro T8 v8 L8 X8 ⟨rfl, N8q, e8⟩
  have N8 := Fr.app (Fr.nil _) N8q
  show Go p e below _ T8 (mkF m 47 #[.val (.ref (ad8 Z a0)), .val (.ref a1), .val (.ref a1)] [(.int (0 : Int32))])
  refine g_ifY X8 K (q := 54) d9_47 (by decide) (by decide) (by decide) ?_
  refine g_iconst X8 K (q := 55) (v := (0 : Int32)) d9_54 (by decide) rfl ?_
  refine g_nret X8 K (by simp) (z' := (0 : Int32)) (by decide) d9_55 (by decide) (by decide) ?_
  exact ⟨rfl, N8, e8⟩
set_option maxRecDepth 65536 in
set_option maxHeartbeats 40000000 in
theorem rm10_62 (l : Launch) {Z : State} {a0 : Array Value} (H : Hyp Z a0) (a1 : Addr) (p1 : Int32) (p2 : Int32) (k1 : ClassId) (h0 : Heap) (Ol : Old Z Z.heap.size h0) (A_1 : Arv Z h0 a1 k1 .byte (2 : Int32) [(.int p1), (.int p2)] (.int (0 : Int32))) :
    Mt l Z (⟨"java/lang/StringLatin1", "equals", "([B[B)Z"⟩ : MethodName) jdk_43_method_13_code 3 (some .boolean) [] ({ frames := 0, cells := 0, slots := 0, locals := 0 } : Room) #[(.ref (ad15 Z a0)), (.ref a1)] h0 (fun v h L => (v = some (.int (0 : Int32)) ∧ Fr Z.heap.size L ∧ h = h0)) := by
  refine g_body (plainFor_of_name pn_java_lang_StringLatin1) ?_
  intro p e s m below meth c T0 K X0 e0
  refine g_entry (ef_6 m (ad15 Z a0) a1) ?_
  have Ol0 := Ol
  refine g_aloadN X0 K (q := 1) d10_0 rfl rfl rfl ?_
  refine g_len X0 K (q := 2) e0 ((v15 H).ext Ol0.2) d10_1 rfl ?_
  refine g_aloadN X0 K (q := 3) d10_2 rfl rfl rfl ?_
  refine g_len X0 K (q := 4) e0 A_1 d10_3 rfl ?_
  refine g_icY X0 K (q := 34) d10_4 (by decide) (by decide) (by decide) ?_
  refine g_iconst X0 K (q := 35) (v := (0 : Int32)) d10_34 (by decide) rfl ?_
  refine g_nret X0 K (by simp) (z' := (0 : Int32)) (by decide) d10_35 (by decide) (by decide) ?_
  exact ⟨rfl, (Fr.nil _), e0⟩
set_option maxRecDepth 65536 in
set_option maxHeartbeats 40000000 in
theorem rm9_63 (l : Launch) {Z : State} {a0 : Array Value} (H : Hyp Z a0) (a1 : Addr) (a2 : Addr) (p1 : Int32) (p2 : Int32) (k1 : ClassId) (h0 : Heap) (Ol : Old Z Z.heap.size h0) (ge_1 : Z.heap.size ≤ a1) (E_1 : Exa Z h0 a1 "java/lang/String") (F_1 : Fld Z h0 a1 "java/lang/String" "coder" "B" (.int (0 : Int32))) (F_2 : Fld Z h0 a1 "java/lang/String" "value" "[B" (.ref a2)) (A_1 : Arv Z h0 a2 k1 .byte (2 : Int32) [(.int p1), (.int p2)] (.int (0 : Int32))) :
    Mt l Z (⟨"java/lang/String", "equals", "(Ljava/lang/Object;)Z"⟩ : MethodName) jdk_42_method_66_code 3 (some .boolean) [] ({ frames := 1, cells := 0, slots := 0, locals := 14 } : Room) #[(.ref (ad9 Z a0)), (.ref a1)] h0 (fun v h L => (v = some (.int (0 : Int32)) ∧ Fr Z.heap.size L ∧ h = h0)) := by
  refine g_body (plainFor_of_name pn_java_lang_String) ?_
  intro p e s m below meth c T0 K X0 e0
  refine g_entry (ef_6 m (ad9 Z a0) a1) ?_
  have Ol0 := Ol
  refine g_aloadN X0 K (q := 1) d9_0 rfl rfl rfl ?_
  refine g_aloadN X0 K (q := 2) d9_1 rfl rfl rfl ?_
  have ne1 : (ad9 Z a0) ≠ a1 := (Nat.ne_of_lt (Nat.lt_of_lt_of_le (f9_value H).lt ge_1))
  refine g_ac X0 K (q := 7) (same := false) d9_2 rfl rfl (decide_eq_false fun q => ne1 (Value.ref.inj q)) (by decide) (by decide) ?_
  refine g_aloadN X0 K (q := 8) d9_7 rfl rfl rfl ?_
  refine g_instY X0 K (q := 11) (w64 H) e0 (Ins.self E_1) d9_8 rfl ?_
  intro T1 X1 e1
  refine g_ifN X1 K (q := 14) d9_11 (by decide) rfl ?_
  refine g_aloadN X1 K (q := 15) d9_14 rfl rfl rfl ?_
  refine g_cast X1 K (q := 18) (w64 H) e1 (Ins.self E_1) d9_15 rfl ?_
  intro T2 X2 e2
  refine g_astoreN X2 K (q := 19) (L' := #[.val (.ref (ad9 Z a0)), .val (.ref a1), .val (.ref a1)]) d9_18 rfl rfl rfl ?_
  refine g_gets X2 K (q := 22) (w65 H) e2 ((ivs0 H).ext Ol0.2) d9_19 rfl ?_
  intro T3 X3 e3
  refine g_ifN X3 K (q := 25) d9_22 (feq (ivn0 H)).1 rfl ?_
  refine g_aloadN X3 K (q := 26) d9_25 rfl rfl rfl ?_
  refine g_getf X3 K (q := 29) (w28 H) Via.refl e3 ((f9_coder H).ext Ol0.2) d9_26 rfl ?_
  intro T4 X4 e4
  refine g_aloadN X4 K (q := 30) d9_29 rfl rfl rfl ?_
  refine g_getf X4 K (q := 33) (w28 H) Via.refl e4 F_1 d9_30 rfl ?_
  intro T5 X5 e5
  refine g_icN X5 K (q := 36) d9_33 (by decide) rfl ?_
  refine g_aloadN X5 K (q := 37) d9_36 rfl rfl rfl ?_
  refine g_getf X5 K (q := 40) (w27 H) Via.refl e5 ((f9_value H).ext Ol0.2) d9_37 rfl ?_
  intro T6 X6 e6
  refine g_aloadN X6 K (q := 41) d9_40 rfl rfl rfl ?_
  refine g_getf X6 K (q := 44) (w27 H) Via.refl e6 F_2 d9_41 rfl ?_
  intro T7 X7 e7
  refine g_static X7 K (q := 47) (W := 0) (w66 H) (w67 H) (w68 H) (w69 H) (by decide) (rm10_62 l H a2 p1 p2 k1 h0 Ol0 A_1) e7 rfl (argsL := [(.ref (ad15 Z a0)), (.ref a2)]) (rest := []) (lenOf pd_6 rfl) rfl rfl (Nat.le_of_eq rfl) d9_44 (by decide) (by decide) (by decide) (by decide) rfl ?_
  rintro T8 v8 L8 X8 ⟨rfl, N8q, e8⟩
  have N8 := Fr.app (Fr.nil _) N8q
  show Go p e below _ T8 (mkF m 47 #[.val (.ref (ad9 Z a0)), .val (.ref a1), .val (.ref a1)] [(.int (0 : Int32))])
  refine g_ifY X8 K (q := 54) d9_47 (by decide) (by decide) (by decide) ?_
  refine g_iconst X8 K (q := 55) (v := (0 : Int32)) d9_54 (by decide) rfl ?_
  refine g_nret X8 K (by simp) (z' := (0 : Int32)) (by decide) d9_55 (by decide) (by decide) ?_
  exact ⟨rfl, N8, e8⟩
set_option maxRecDepth 65536 in
set_option maxHeartbeats 40000000 in
theorem rm10_64 (l : Launch) {Z : State} {a0 : Array Value} (H : Hyp Z a0) (a1 : Addr) (p1 : Int32) (p2 : Int32) (k1 : ClassId) (h0 : Heap) (Ol : Old Z Z.heap.size h0) (A_1 : Arv Z h0 a1 k1 .byte (2 : Int32) [(.int p1), (.int p2)] (.int (0 : Int32))) (hc_1 : (60 : Int32) = p1) (hc_2 : (61 : Int32) = p2) :
    Mt l Z (⟨"java/lang/StringLatin1", "equals", "([B[B)Z"⟩ : MethodName) jdk_43_method_13_code 3 (some .boolean) [] ({ frames := 0, cells := 0, slots := 0, locals := 0 } : Room) #[(.ref (ad16 Z a0)), (.ref a1)] h0 (fun v h L => (v = some (.int (1 : Int32)) ∧ Fr Z.heap.size L ∧ h = h0)) := by
  refine g_body (plainFor_of_name pn_java_lang_StringLatin1) ?_
  intro p e s m below meth c T0 K X0 e0
  refine g_entry (ef_6 m (ad16 Z a0) a1) ?_
  have Ol0 := Ol
  refine g_aloadN X0 K (q := 1) d10_0 rfl rfl rfl ?_
  refine g_len X0 K (q := 2) e0 ((v16 H).ext Ol0.2) d10_1 rfl ?_
  refine g_aloadN X0 K (q := 3) d10_2 rfl rfl rfl ?_
  refine g_len X0 K (q := 4) e0 A_1 d10_3 rfl ?_
  refine g_icN X0 K (q := 7) d10_4 (by decide) rfl ?_
  refine g_iconst X0 K (q := 8) (v := (0 : Int32)) d10_7 (by decide) rfl ?_
  refine g_istoreN X0 K (q := 9) (L' := #[.val (.ref (ad16 Z a0)), .val (.ref a1), .val (.int (0 : Int32))]) d10_8 rfl rfl ?_
  refine g_iloadN X0 K (q := 10) d10_9 rfl rfl ?_
  refine g_aloadN X0 K (q := 11) d10_10 rfl rfl rfl ?_
  refine g_len X0 K (q := 12) e0 ((v16 H).ext Ol0.2) d10_11 rfl ?_
  refine g_icN X0 K (q := 15) d10_12 (by decide) rfl ?_
  refine g_aloadN X0 K (q := 16) d10_15 rfl rfl rfl ?_
  refine g_iloadN X0 K (q := 17) d10_16 rfl rfl ?_
  refine g_bald X0 K (q := 18) (v := (.int (60 : Int32))) e0 ((v16 H).ext Ol0.2) (by decide) rfl d10_17 rfl ?_
  refine g_aloadN X0 K (q := 19) d10_18 rfl rfl rfl ?_
  refine g_iloadN X0 K (q := 20) d10_19 rfl rfl ?_
  refine g_bald X0 K (q := 21) (v := (.int p1)) e0 A_1 (by decide) rfl d10_20 rfl ?_
  refine g_icY X0 K (q := 26) d10_21 (teq hc_1).1 (by decide) (by decide) ?_
  refine g_iinc X0 K (q := 29) (z := (1 : Int32)) (L' := #[.val (.ref (ad16 Z a0)), .val (.ref a1), .val (.int (1 : Int32))]) d10_26 rfl (by decide) rfl rfl ?_
  refine g_goto X0 K (q := 9) d10_29 (by decide) (by decide) ?_
  refine g_iloadN X0 K (q := 10) d10_9 rfl rfl ?_
  refine g_aloadN X0 K (q := 11) d10_10 rfl rfl rfl ?_
  refine g_len X0 K (q := 12) e0 ((v16 H).ext Ol0.2) d10_11 rfl ?_
  refine g_icN X0 K (q := 15) d10_12 (by decide) rfl ?_
  refine g_aloadN X0 K (q := 16) d10_15 rfl rfl rfl ?_
  refine g_iloadN X0 K (q := 17) d10_16 rfl rfl ?_
  refine g_bald X0 K (q := 18) (v := (.int (61 : Int32))) e0 ((v16 H).ext Ol0.2) (by decide) rfl d10_17 rfl ?_
  refine g_aloadN X0 K (q := 19) d10_18 rfl rfl rfl ?_
  refine g_iloadN X0 K (q := 20) d10_19 rfl rfl ?_
  refine g_bald X0 K (q := 21) (v := (.int p2)) e0 A_1 (by decide) rfl d10_20 rfl ?_
  refine g_icY X0 K (q := 26) d10_21 (teq hc_2).1 (by decide) (by decide) ?_
  refine g_iinc X0 K (q := 29) (z := (2 : Int32)) (L' := #[.val (.ref (ad16 Z a0)), .val (.ref a1), .val (.int (2 : Int32))]) d10_26 rfl (by decide) rfl rfl ?_
  refine g_goto X0 K (q := 9) d10_29 (by decide) (by decide) ?_
  refine g_iloadN X0 K (q := 10) d10_9 rfl rfl ?_
  refine g_aloadN X0 K (q := 11) d10_10 rfl rfl rfl ?_
  refine g_len X0 K (q := 12) e0 ((v16 H).ext Ol0.2) d10_11 rfl ?_
  refine g_icY X0 K (q := 32) d10_12 (by decide) (by decide) (by decide) ?_
  refine g_iconst X0 K (q := 33) (v := (1 : Int32)) d10_32 (by decide) rfl ?_
  refine g_nret X0 K (by simp) (z' := (1 : Int32)) (by decide) d10_33 (by decide) (by decide) ?_
  exact ⟨rfl, (Fr.nil _), e0⟩
set_option maxRecDepth 65536 in
set_option maxHeartbeats 40000000 in
theorem rm9_65 (l : Launch) {Z : State} {a0 : Array Value} (H : Hyp Z a0) (a1 : Addr) (a2 : Addr) (p1 : Int32) (p2 : Int32) (k1 : ClassId) (h0 : Heap) (Ol : Old Z Z.heap.size h0) (ge_1 : Z.heap.size ≤ a1) (E_1 : Exa Z h0 a1 "java/lang/String") (F_1 : Fld Z h0 a1 "java/lang/String" "coder" "B" (.int (0 : Int32))) (F_2 : Fld Z h0 a1 "java/lang/String" "value" "[B" (.ref a2)) (A_1 : Arv Z h0 a2 k1 .byte (2 : Int32) [(.int p1), (.int p2)] (.int (0 : Int32))) (hc_1 : (60 : Int32) = p1) (hc_2 : (61 : Int32) = p2) :
    Mt l Z (⟨"java/lang/String", "equals", "(Ljava/lang/Object;)Z"⟩ : MethodName) jdk_42_method_66_code 3 (some .boolean) [] ({ frames := 1, cells := 0, slots := 0, locals := 14 } : Room) #[(.ref (ad10 Z a0)), (.ref a1)] h0 (fun v h L => (v = some (.int (1 : Int32)) ∧ Fr Z.heap.size L ∧ h = h0)) := by
  refine g_body (plainFor_of_name pn_java_lang_String) ?_
  intro p e s m below meth c T0 K X0 e0
  refine g_entry (ef_6 m (ad10 Z a0) a1) ?_
  have Ol0 := Ol
  refine g_aloadN X0 K (q := 1) d9_0 rfl rfl rfl ?_
  refine g_aloadN X0 K (q := 2) d9_1 rfl rfl rfl ?_
  have ne1 : (ad10 Z a0) ≠ a1 := (Nat.ne_of_lt (Nat.lt_of_lt_of_le (f10_value H).lt ge_1))
  refine g_ac X0 K (q := 7) (same := false) d9_2 rfl rfl (decide_eq_false fun q => ne1 (Value.ref.inj q)) (by decide) (by decide) ?_
  refine g_aloadN X0 K (q := 8) d9_7 rfl rfl rfl ?_
  refine g_instY X0 K (q := 11) (w64 H) e0 (Ins.self E_1) d9_8 rfl ?_
  intro T1 X1 e1
  refine g_ifN X1 K (q := 14) d9_11 (by decide) rfl ?_
  refine g_aloadN X1 K (q := 15) d9_14 rfl rfl rfl ?_
  refine g_cast X1 K (q := 18) (w64 H) e1 (Ins.self E_1) d9_15 rfl ?_
  intro T2 X2 e2
  refine g_astoreN X2 K (q := 19) (L' := #[.val (.ref (ad10 Z a0)), .val (.ref a1), .val (.ref a1)]) d9_18 rfl rfl rfl ?_
  refine g_gets X2 K (q := 22) (w65 H) e2 ((ivs0 H).ext Ol0.2) d9_19 rfl ?_
  intro T3 X3 e3
  refine g_ifN X3 K (q := 25) d9_22 (feq (ivn0 H)).1 rfl ?_
  refine g_aloadN X3 K (q := 26) d9_25 rfl rfl rfl ?_
  refine g_getf X3 K (q := 29) (w28 H) Via.refl e3 ((f10_coder H).ext Ol0.2) d9_26 rfl ?_
  intro T4 X4 e4
  refine g_aloadN X4 K (q := 30) d9_29 rfl rfl rfl ?_
  refine g_getf X4 K (q := 33) (w28 H) Via.refl e4 F_1 d9_30 rfl ?_
  intro T5 X5 e5
  refine g_icN X5 K (q := 36) d9_33 (by decide) rfl ?_
  refine g_aloadN X5 K (q := 37) d9_36 rfl rfl rfl ?_
  refine g_getf X5 K (q := 40) (w27 H) Via.refl e5 ((f10_value H).ext Ol0.2) d9_37 rfl ?_
  intro T6 X6 e6
  refine g_aloadN X6 K (q := 41) d9_40 rfl rfl rfl ?_
  refine g_getf X6 K (q := 44) (w27 H) Via.refl e6 F_2 d9_41 rfl ?_
  intro T7 X7 e7
  refine g_static X7 K (q := 47) (W := 0) (w66 H) (w67 H) (w68 H) (w69 H) (by decide) (rm10_64 l H a2 p1 p2 k1 h0 Ol0 A_1 hc_1 hc_2) e7 rfl (argsL := [(.ref (ad16 Z a0)), (.ref a2)]) (rest := []) (lenOf pd_6 rfl) rfl rfl (Nat.le_of_eq rfl) d9_44 (by decide) (by decide) (by decide) (by decide) rfl ?_
  rintro T8 v8 L8 X8 ⟨rfl, N8q, e8⟩
  have N8 := Fr.app (Fr.nil _) N8q
  show Go p e below _ T8 (mkF m 47 #[.val (.ref (ad10 Z a0)), .val (.ref a1), .val (.ref a1)] [(.int (1 : Int32))])
  refine g_ifN X8 K (q := 50) d9_47 (by decide) rfl ?_
  refine g_iconst X8 K (q := 51) (v := (1 : Int32)) d9_50 (by decide) rfl ?_
  refine g_goto X8 K (q := 55) d9_51 (by decide) (by decide) ?_
  refine g_nret X8 K (by simp) (z' := (1 : Int32)) (by decide) d9_55 (by decide) (by decide) ?_
  exact ⟨rfl, N8, e8⟩
set_option maxRecDepth 65536 in
set_option maxHeartbeats 40000000 in
theorem rm7_66 (l : Launch) {Z : State} {a0 : Array Value} (H : Hyp Z a0) (a1 : Addr) (a2 : Addr) (p1 : Int32) (p2 : Int32) (k1 : ClassId) (h0 : Heap) (Ol : Old Z Z.heap.size h0) (F_1 : Fld Z h0 a1 "java/lang/String" "coder" "B" (.int (0 : Int32))) (F_2 : Fld Z h0 a1 "java/lang/String" "value" "[B" (.ref a2)) (A_1 : Arv Z h0 a2 k1 .byte (2 : Int32) [(.int p1), (.int p2)] (.int (0 : Int32))) (ge_1 : Z.heap.size ≤ a1) (E_1 : Exa Z h0 a1 "java/lang/String") (hc_1 : ¬ ((33 : Int32) = p1)) (hc_2 : (60 : Int32) = p1) (hc_3 : (61 : Int32) = p2) :
    Mt l Z (⟨"com/example/annotable/annotable/PathQuery$Comparison", "of", "(Ljava/lang/String;)Lcom/example/annotable/annotable/PathQuery$Comparison;"⟩ : MethodName) prog_16_method_6_code 5 (some (.object "com/example/annotable/annotable/PathQuery$Comparison")) [] ({ frames := 2, cells := 1, slots := 6, locals := 28 } : Room) #[(.ref a1)] h0 (fun v h L => (v = some (.ref (ad4 Z a0)) ∧ Fr Z.heap.size L ∧ Keep h0 h [])) := by
  refine g_body (plainFor_of_name pn_com_example_annotable_annotable_PathQuery_Comparison) ?_
  intro p e s m below meth c T0 K X0 e0
  refine g_entry (ef_7 m a1) ?_
  have nw_a1 : a1 ∉ [] := nin0
  have nw_a2 : a2 ∉ [] := nin0
  have Ol0 := Ol
  refine g_static X0 K (q := 3) (W := 0) (w36 H) (w37 H) (w34 H) (w38 H) (by decide) (rm8_6 l H h0 Ol0) e0 rfl (argsL := []) (rest := []) (lenOf pd_5 rfl) rfl rfl (Nat.le_of_eq rfl) d7_0 (by decide) (by decide) (by decide) (by decide) rfl ?_
  rintro T1 v1 L1 X1 ⟨bx1, rfl, N1q, Kc1, lz1_0, g1, g2⟩
  have szbx1 := Nat.le_trans (Keep.refl h0 []).1 lz1_0
  have gebx1 := Nat.le_trans Ol0.2.1 lz1_0
  have so1 := Sd.one bx1
  obtain ⟨N1, Ol1, Kp1⟩ := ivK (Fr.nil _) Ol0 (Keep.refl h0 []) N1q Kc1 all0 all0
  show Go p e below _ T1 (mkF m 3 #[.val (.ref a1), .unset, .unset, .unset, .unset] [(.ref bx1)])
  refine g_astoreN X1 K (q := 4) (L' := #[.val (.ref a1), .val (.ref bx1), .unset, .unset, .unset]) d7_3 rfl rfl rfl ?_
  refine g_aloadN X1 K (q := 5) d7_4 rfl rfl rfl ?_
  refine g_len X1 K (q := 6) rfl g1 d7_5 rfl ?_
  refine g_istoreN X1 K (q := 7) (L' := #[.val (.ref a1), .val (.ref bx1), .val (.int (6 : Int32)), .unset, .unset]) d7_6 rfl rfl ?_
  refine g_iconst X1 K (q := 8) (v := (0 : Int32)) d7_7 (by decide) rfl ?_
  refine g_istoreN X1 K (q := 9) (L' := #[.val (.ref a1), .val (.ref bx1), .val (.int (6 : Int32)), .val (.int (0 : Int32)), .unset]) d7_8 rfl rfl ?_
  refine g_iloadN X1 K (q := 10) d7_9 rfl rfl ?_
  refine g_iloadN X1 K (q := 11) d7_10 rfl rfl ?_
  refine g_icN X1 K (q := 14) d7_11 (by decide) rfl ?_
  refine g_aloadN X1 K (q := 15) d7_14 rfl rfl rfl ?_
  refine g_iloadN X1 K (q := 16) d7_15 rfl rfl ?_
  refine g_aald X1 K (q := 17) (v := (.ref (ad1 Z a0))) rfl g1 rfl (by decide) rfl d7_16 rfl ?_
  refine g_astore X1 K (q := 19) (L' := #[.val (.ref a1), .val (.ref bx1), .val (.int (6 : Int32)), .val (.int (0 : Int32)), .val (.ref (ad1 Z a0))]) d7_17 rfl rfl rfl ?_
  refine g_aload X1 K (q := 21) d7_19 rfl rfl rfl ?_
  refine g_getf X1 K (q := 24) (w57 H) Via.refl rfl ((f1_symbol H).ext Ol1.2) d7_21 rfl ?_
  intro T2 X2 e2
  refine g_aloadN X2 K (q := 25) d7_24 rfl rfl rfl ?_
  have f1 := E_1.keep Kp1
  have f2 := F_1.keep Kp1 nw_a1
  have f3 := F_2.keep Kp1 nw_a1
  have f4 := A_1.keep Kp1 nw_a2
  refine g_virtual X2 K (q := 28) (W := 0) (a := (ad7 Z a0)) (w59 H) (w60 H) (nf_self K (w62 H)) (w62 H) (w61 H) (w9 H) (w63 H) (by decide) (rm9_56 l H a1 a2 p1 p2 k1 T1.heap Ol1 ge_1 f1 f2 f3 f4) e2 ((x7 H).ext Ol1.2) rfl (argsL := [(.ref a1)]) (rest := []) (lenOf pd_7 rfl) rfl rfl (Nat.le_of_eq rfl) d7_25 (by decide) (by decide) (by decide) (by decide) rfl ?_
  rintro T3 v3 L3 X3 ⟨rfl, N3q, e3⟩
  have N3 := Fr.app N1 N3q
  show Go p e below _ T3 (mkF m 28 #[.val (.ref a1), .val (.ref bx1), .val (.int (6 : Int32)), .val (.int (0 : Int32)), .val (.ref (ad1 Z a0))] [(.int (0 : Int32))])
  refine g_ifY X3 K (q := 34) d7_28 (by decide) (by decide) (by decide) ?_
  refine g_iinc X3 K (q := 37) (z := (1 : Int32)) (L' := #[.val (.ref a1), .val (.ref bx1), .val (.int (6 : Int32)), .val (.int (1 : Int32)), .val (.ref (ad1 Z a0))]) d7_34 rfl (by decide) rfl rfl ?_
  refine g_goto X3 K (q := 9) d7_37 (by decide) (by decide) ?_
  refine g_iloadN X3 K (q := 10) d7_9 rfl rfl ?_
  refine g_iloadN X3 K (q := 11) d7_10 rfl rfl ?_
  refine g_icN X3 K (q := 14) d7_11 (by decide) rfl ?_
  refine g_aloadN X3 K (q := 15) d7_14 rfl rfl rfl ?_
  refine g_iloadN X3 K (q := 16) d7_15 rfl rfl ?_
  refine g_aald X3 K (q := 17) (v := (.ref (ad2 Z a0))) e3 g1 rfl (by decide) rfl d7_16 rfl ?_
  refine g_astore X3 K (q := 19) (L' := #[.val (.ref a1), .val (.ref bx1), .val (.int (6 : Int32)), .val (.int (1 : Int32)), .val (.ref (ad2 Z a0))]) d7_17 rfl rfl rfl ?_
  refine g_aload X3 K (q := 21) d7_19 rfl rfl rfl ?_
  refine g_getf X3 K (q := 24) (w57 H) Via.refl e3 ((f2_symbol H).ext Ol1.2) d7_21 rfl ?_
  intro T4 X4 e4
  refine g_aloadN X4 K (q := 25) d7_24 rfl rfl rfl ?_
  refine g_virtual X4 K (q := 28) (W := 0) (a := (ad8 Z a0)) (w59 H) (w60 H) (nf_self K (w62 H)) (w62 H) (w61 H) (w9 H) (w63 H) (by decide) (rm9_61 l H a1 a2 p1 p2 k1 T1.heap Ol1 ge_1 f1 f2 f3 f4 hc_1) e4 ((x8 H).ext Ol1.2) rfl (argsL := [(.ref a1)]) (rest := []) (lenOf pd_7 rfl) rfl rfl (Nat.le_of_eq rfl) d7_25 (by decide) (by decide) (by decide) (by decide) rfl ?_
  rintro T5 v5 L5 X5 ⟨rfl, N5q, e5⟩
  have N5 := Fr.app N3 N5q
  show Go p e below _ T5 (mkF m 28 #[.val (.ref a1), .val (.ref bx1), .val (.int (6 : Int32)), .val (.int (1 : Int32)), .val (.ref (ad2 Z a0))] [(.int (0 : Int32))])
  refine g_ifY X5 K (q := 34) d7_28 (by decide) (by decide) (by decide) ?_
  refine g_iinc X5 K (q := 37) (z := (2 : Int32)) (L' := #[.val (.ref a1), .val (.ref bx1), .val (.int (6 : Int32)), .val (.int (2 : Int32)), .val (.ref (ad2 Z a0))]) d7_34 rfl (by decide) rfl rfl ?_
  refine g_goto X5 K (q := 9) d7_37 (by decide) (by decide) ?_
  refine g_iloadN X5 K (q := 10) d7_9 rfl rfl ?_
  refine g_iloadN X5 K (q := 11) d7_10 rfl rfl ?_
  refine g_icN X5 K (q := 14) d7_11 (by decide) rfl ?_
  refine g_aloadN X5 K (q := 15) d7_14 rfl rfl rfl ?_
  refine g_iloadN X5 K (q := 16) d7_15 rfl rfl ?_
  refine g_aald X5 K (q := 17) (v := (.ref (ad3 Z a0))) e5 g1 rfl (by decide) rfl d7_16 rfl ?_
  refine g_astore X5 K (q := 19) (L' := #[.val (.ref a1), .val (.ref bx1), .val (.int (6 : Int32)), .val (.int (2 : Int32)), .val (.ref (ad3 Z a0))]) d7_17 rfl rfl rfl ?_
  refine g_aload X5 K (q := 21) d7_19 rfl rfl rfl ?_
  refine g_getf X5 K (q := 24) (w57 H) Via.refl e5 ((f3_symbol H).ext Ol1.2) d7_21 rfl ?_
  intro T6 X6 e6
  refine g_aloadN X6 K (q := 25) d7_24 rfl rfl rfl ?_
  refine g_virtual X6 K (q := 28) (W := 0) (a := (ad9 Z a0)) (w59 H) (w60 H) (nf_self K (w62 H)) (w62 H) (w61 H) (w9 H) (w63 H) (by decide) (rm9_63 l H a1 a2 p1 p2 k1 T1.heap Ol1 ge_1 f1 f2 f3 f4) e6 ((x9 H).ext Ol1.2) rfl (argsL := [(.ref a1)]) (rest := []) (lenOf pd_7 rfl) rfl rfl (Nat.le_of_eq rfl) d7_25 (by decide) (by decide) (by decide) (by decide) rfl ?_
  rintro T7 v7 L7 X7 ⟨rfl, N7q, e7⟩
  have N7 := Fr.app N5 N7q
  show Go p e below _ T7 (mkF m 28 #[.val (.ref a1), .val (.ref bx1), .val (.int (6 : Int32)), .val (.int (2 : Int32)), .val (.ref (ad3 Z a0))] [(.int (0 : Int32))])
  refine g_ifY X7 K (q := 34) d7_28 (by decide) (by decide) (by decide) ?_
  refine g_iinc X7 K (q := 37) (z := (3 : Int32)) (L' := #[.val (.ref a1), .val (.ref bx1), .val (.int (6 : Int32)), .val (.int (3 : Int32)), .val (.ref (ad3 Z a0))]) d7_34 rfl (by decide) rfl rfl ?_
  refine g_goto X7 K (q := 9) d7_37 (by decide) (by decide) ?_
  refine g_iloadN X7 K (q := 10) d7_9 rfl rfl ?_
  refine g_iloadN X7 K (q := 11) d7_10 rfl rfl ?_
  refine g_icN X7 K (q := 14) d7_11 (by decide) rfl ?_
  refine g_aloadN X7 K (q := 15) d7_14 rfl rfl rfl ?_
  refine g_iloadN X7 K (q := 16) d7_15 rfl rfl ?_
  refine g_aald X7 K (q := 17) (v := (.ref (ad4 Z a0))) e7 g1 rfl (by decide) rfl d7_16 rfl ?_
  refine g_astore X7 K (q := 19) (L' := #[.val (.ref a1), .val (.ref bx1), .val (.int (6 : Int32)), .val (.int (3 : Int32)), .val (.ref (ad4 Z a0))]) d7_17 rfl rfl rfl ?_
  refine g_aload X7 K (q := 21) d7_19 rfl rfl rfl ?_
  refine g_getf X7 K (q := 24) (w57 H) Via.refl e7 ((f4_symbol H).ext Ol1.2) d7_21 rfl ?_
  intro T8 X8 e8
  refine g_aloadN X8 K (q := 25) d7_24 rfl rfl rfl ?_
  refine g_virtual X8 K (q := 28) (W := 0) (a := (ad10 Z a0)) (w59 H) (w60 H) (nf_self K (w62 H)) (w62 H) (w61 H) (w9 H) (w63 H) (by decide) (rm9_65 l H a1 a2 p1 p2 k1 T1.heap Ol1 ge_1 f1 f2 f3 f4 hc_2 hc_3) e8 ((x10 H).ext Ol1.2) rfl (argsL := [(.ref a1)]) (rest := []) (lenOf pd_7 rfl) rfl rfl (Nat.le_of_eq rfl) d7_25 (by decide) (by decide) (by decide) (by decide) rfl ?_
  rintro T9 v9 L9 X9 ⟨rfl, N9q, e9⟩
  have N9 := Fr.app N7 N9q
  show Go p e below _ T9 (mkF m 28 #[.val (.ref a1), .val (.ref bx1), .val (.int (6 : Int32)), .val (.int (3 : Int32)), .val (.ref (ad4 Z a0))] [(.int (1 : Int32))])
  refine g_ifN X9 K (q := 31) d7_28 (by decide) rfl ?_
  refine g_aload X9 K (q := 33) d7_31 rfl rfl rfl ?_
  refine g_aret X9 K rfl rfl rfl d7_33 (by decide) (by decide) ?_
  have Kp : Keep h0 T9.heap [] := by rw [e9]; exact Kp1
  exact ⟨rfl, N9, Kp⟩
set_option maxRecDepth 65536 in
set_option maxHeartbeats 40000000 in
theorem rm10_67 (l : Launch) {Z : State} {a0 : Array Value} (H : Hyp Z a0) (a1 : Addr) (p1 : Int32) (p2 : Int32) (k1 : ClassId) (h0 : Heap) (Ol : Old Z Z.heap.size h0) (A_1 : Arv Z h0 a1 k1 .byte (2 : Int32) [(.int p1), (.int p2)] (.int (0 : Int32))) (hc_1 : ¬ ((60 : Int32) = p1)) :
    Mt l Z (⟨"java/lang/StringLatin1", "equals", "([B[B)Z"⟩ : MethodName) jdk_43_method_13_code 3 (some .boolean) [] ({ frames := 0, cells := 0, slots := 0, locals := 0 } : Room) #[(.ref (ad16 Z a0)), (.ref a1)] h0 (fun v h L => (v = some (.int (0 : Int32)) ∧ Fr Z.heap.size L ∧ h = h0)) := by
  refine g_body (plainFor_of_name pn_java_lang_StringLatin1) ?_
  intro p e s m below meth c T0 K X0 e0
  refine g_entry (ef_6 m (ad16 Z a0) a1) ?_
  have Ol0 := Ol
  refine g_aloadN X0 K (q := 1) d10_0 rfl rfl rfl ?_
  refine g_len X0 K (q := 2) e0 ((v16 H).ext Ol0.2) d10_1 rfl ?_
  refine g_aloadN X0 K (q := 3) d10_2 rfl rfl rfl ?_
  refine g_len X0 K (q := 4) e0 A_1 d10_3 rfl ?_
  refine g_icN X0 K (q := 7) d10_4 (by decide) rfl ?_
  refine g_iconst X0 K (q := 8) (v := (0 : Int32)) d10_7 (by decide) rfl ?_
  refine g_istoreN X0 K (q := 9) (L' := #[.val (.ref (ad16 Z a0)), .val (.ref a1), .val (.int (0 : Int32))]) d10_8 rfl rfl ?_
  refine g_iloadN X0 K (q := 10) d10_9 rfl rfl ?_
  refine g_aloadN X0 K (q := 11) d10_10 rfl rfl rfl ?_
  refine g_len X0 K (q := 12) e0 ((v16 H).ext Ol0.2) d10_11 rfl ?_
  refine g_icN X0 K (q := 15) d10_12 (by decide) rfl ?_
  refine g_aloadN X0 K (q := 16) d10_15 rfl rfl rfl ?_
  refine g_iloadN X0 K (q := 17) d10_16 rfl rfl ?_
  refine g_bald X0 K (q := 18) (v := (.int (60 : Int32))) e0 ((v16 H).ext Ol0.2) (by decide) rfl d10_17 rfl ?_
  refine g_aloadN X0 K (q := 19) d10_18 rfl rfl rfl ?_
  refine g_iloadN X0 K (q := 20) d10_19 rfl rfl ?_
  refine g_bald X0 K (q := 21) (v := (.int p1)) e0 A_1 (by decide) rfl d10_20 rfl ?_
  refine g_icN X0 K (q := 24) d10_21 (feq hc_1).1 rfl ?_
  refine g_iconst X0 K (q := 25) (v := (0 : Int32)) d10_24 (by decide) rfl ?_
  refine g_nret X0 K (by simp) (z' := (0 : Int32)) (by decide) d10_25 (by decide) (by decide) ?_
  exact ⟨rfl, (Fr.nil _), e0⟩
set_option maxRecDepth 65536 in
set_option maxHeartbeats 40000000 in
theorem rm9_68 (l : Launch) {Z : State} {a0 : Array Value} (H : Hyp Z a0) (a1 : Addr) (a2 : Addr) (p1 : Int32) (p2 : Int32) (k1 : ClassId) (h0 : Heap) (Ol : Old Z Z.heap.size h0) (ge_1 : Z.heap.size ≤ a1) (E_1 : Exa Z h0 a1 "java/lang/String") (F_1 : Fld Z h0 a1 "java/lang/String" "coder" "B" (.int (0 : Int32))) (F_2 : Fld Z h0 a1 "java/lang/String" "value" "[B" (.ref a2)) (A_1 : Arv Z h0 a2 k1 .byte (2 : Int32) [(.int p1), (.int p2)] (.int (0 : Int32))) (hc_1 : ¬ ((60 : Int32) = p1)) :
    Mt l Z (⟨"java/lang/String", "equals", "(Ljava/lang/Object;)Z"⟩ : MethodName) jdk_42_method_66_code 3 (some .boolean) [] ({ frames := 1, cells := 0, slots := 0, locals := 14 } : Room) #[(.ref (ad10 Z a0)), (.ref a1)] h0 (fun v h L => (v = some (.int (0 : Int32)) ∧ Fr Z.heap.size L ∧ h = h0)) := by
  refine g_body (plainFor_of_name pn_java_lang_String) ?_
  intro p e s m below meth c T0 K X0 e0
  refine g_entry (ef_6 m (ad10 Z a0) a1) ?_
  have Ol0 := Ol
  refine g_aloadN X0 K (q := 1) d9_0 rfl rfl rfl ?_
  refine g_aloadN X0 K (q := 2) d9_1 rfl rfl rfl ?_
  have ne1 : (ad10 Z a0) ≠ a1 := (Nat.ne_of_lt (Nat.lt_of_lt_of_le (f10_value H).lt ge_1))
  refine g_ac X0 K (q := 7) (same := false) d9_2 rfl rfl (decide_eq_false fun q => ne1 (Value.ref.inj q)) (by decide) (by decide) ?_
  refine g_aloadN X0 K (q := 8) d9_7 rfl rfl rfl ?_
  refine g_instY X0 K (q := 11) (w64 H) e0 (Ins.self E_1) d9_8 rfl ?_
  intro T1 X1 e1
  refine g_ifN X1 K (q := 14) d9_11 (by decide) rfl ?_
  refine g_aloadN X1 K (q := 15) d9_14 rfl rfl rfl ?_
  refine g_cast X1 K (q := 18) (w64 H) e1 (Ins.self E_1) d9_15 rfl ?_
  intro T2 X2 e2
  refine g_astoreN X2 K (q := 19) (L' := #[.val (.ref (ad10 Z a0)), .val (.ref a1), .val (.ref a1)]) d9_18 rfl rfl rfl ?_
  refine g_gets X2 K (q := 22) (w65 H) e2 ((ivs0 H).ext Ol0.2) d9_19 rfl ?_
  intro T3 X3 e3
  refine g_ifN X3 K (q := 25) d9_22 (feq (ivn0 H)).1 rfl ?_
  refine g_aloadN X3 K (q := 26) d9_25 rfl rfl rfl ?_
  refine g_getf X3 K (q := 29) (w28 H) Via.refl e3 ((f10_coder H).ext Ol0.2) d9_26 rfl ?_
  intro T4 X4 e4
  refine g_aloadN X4 K (q := 30) d9_29 rfl rfl rfl ?_
  refine g_getf X4 K (q := 33) (w28 H) Via.refl e4 F_1 d9_30 rfl ?_
  intro T5 X5 e5
  refine g_icN X5 K (q := 36) d9_33 (by decide) rfl ?_
  refine g_aloadN X5 K (q := 37) d9_36 rfl rfl rfl ?_
  refine g_getf X5 K (q := 40) (w27 H) Via.refl e5 ((f10_value H).ext Ol0.2) d9_37 rfl ?_
  intro T6 X6 e6
  refine g_aloadN X6 K (q := 41) d9_40 rfl rfl rfl ?_
  refine g_getf X6 K (q := 44) (w27 H) Via.refl e6 F_2 d9_41 rfl ?_
  intro T7 X7 e7
  refine g_static X7 K (q := 47) (W := 0) (w66 H) (w67 H) (w68 H) (w69 H) (by decide) (rm10_67 l H a2 p1 p2 k1 h0 Ol0 A_1 hc_1) e7 rfl (argsL := [(.ref (ad16 Z a0)), (.ref a2)]) (rest := []) (lenOf pd_6 rfl) rfl rfl (Nat.le_of_eq rfl) d9_44 (by decide) (by decide) (by decide) (by decide) rfl ?_
  rintro T8 v8 L8 X8 ⟨rfl, N8q, e8⟩
  have N8 := Fr.app (Fr.nil _) N8q
  show Go p e below _ T8 (mkF m 47 #[.val (.ref (ad10 Z a0)), .val (.ref a1), .val (.ref a1)] [(.int (0 : Int32))])
  refine g_ifY X8 K (q := 54) d9_47 (by decide) (by decide) (by decide) ?_
  refine g_iconst X8 K (q := 55) (v := (0 : Int32)) d9_54 (by decide) rfl ?_
  refine g_nret X8 K (by simp) (z' := (0 : Int32)) (by decide) d9_55 (by decide) (by decide) ?_
  exact ⟨rfl, N8, e8⟩
set_option maxRecDepth 65536 in
set_option maxHeartbeats 40000000 in
theorem rm10_69 (l : Launch) {Z : State} {a0 : Array Value} (H : Hyp Z a0) (a1 : Addr) (p1 : Int32) (p2 : Int32) (k1 : ClassId) (h0 : Heap) (Ol : Old Z Z.heap.size h0) (A_1 : Arv Z h0 a1 k1 .byte (2 : Int32) [(.int p1), (.int p2)] (.int (0 : Int32))) :
    Mt l Z (⟨"java/lang/StringLatin1", "equals", "([B[B)Z"⟩ : MethodName) jdk_43_method_13_code 3 (some .boolean) [] ({ frames := 0, cells := 0, slots := 0, locals := 0 } : Room) #[(.ref (ad17 Z a0)), (.ref a1)] h0 (fun v h L => (v = some (.int (0 : Int32)) ∧ Fr Z.heap.size L ∧ h = h0)) := by
  refine g_body (plainFor_of_name pn_java_lang_StringLatin1) ?_
  intro p e s m below meth c T0 K X0 e0
  refine g_entry (ef_6 m (ad17 Z a0) a1) ?_
  have Ol0 := Ol
  refine g_aloadN X0 K (q := 1) d10_0 rfl rfl rfl ?_
  refine g_len X0 K (q := 2) e0 ((v17 H).ext Ol0.2) d10_1 rfl ?_
  refine g_aloadN X0 K (q := 3) d10_2 rfl rfl rfl ?_
  refine g_len X0 K (q := 4) e0 A_1 d10_3 rfl ?_
  refine g_icY X0 K (q := 34) d10_4 (by decide) (by decide) (by decide) ?_
  refine g_iconst X0 K (q := 35) (v := (0 : Int32)) d10_34 (by decide) rfl ?_
  refine g_nret X0 K (by simp) (z' := (0 : Int32)) (by decide) d10_35 (by decide) (by decide) ?_
  exact ⟨rfl, (Fr.nil _), e0⟩
set_option maxRecDepth 65536 in
set_option maxHeartbeats 40000000 in
theorem rm9_70 (l : Launch) {Z : State} {a0 : Array Value} (H : Hyp Z a0) (a1 : Addr) (a2 : Addr) (p1 : Int32) (p2 : Int32) (k1 : ClassId) (h0 : Heap) (Ol : Old Z Z.heap.size h0) (ge_1 : Z.heap.size ≤ a1) (E_1 : Exa Z h0 a1 "java/lang/String") (F_1 : Fld Z h0 a1 "java/lang/String" "coder" "B" (.int (0 : Int32))) (F_2 : Fld Z h0 a1 "java/lang/String" "value" "[B" (.ref a2)) (A_1 : Arv Z h0 a2 k1 .byte (2 : Int32) [(.int p1), (.int p2)] (.int (0 : Int32))) :
    Mt l Z (⟨"java/lang/String", "equals", "(Ljava/lang/Object;)Z"⟩ : MethodName) jdk_42_method_66_code 3 (some .boolean) [] ({ frames := 1, cells := 0, slots := 0, locals := 14 } : Room) #[(.ref (ad11 Z a0)), (.ref a1)] h0 (fun v h L => (v = some (.int (0 : Int32)) ∧ Fr Z.heap.size L ∧ h = h0)) := by
  refine g_body (plainFor_of_name pn_java_lang_String) ?_
  intro p e s m below meth c T0 K X0 e0
  refine g_entry (ef_6 m (ad11 Z a0) a1) ?_
  have Ol0 := Ol
  refine g_aloadN X0 K (q := 1) d9_0 rfl rfl rfl ?_
  refine g_aloadN X0 K (q := 2) d9_1 rfl rfl rfl ?_
  have ne1 : (ad11 Z a0) ≠ a1 := (Nat.ne_of_lt (Nat.lt_of_lt_of_le (f11_value H).lt ge_1))
  refine g_ac X0 K (q := 7) (same := false) d9_2 rfl rfl (decide_eq_false fun q => ne1 (Value.ref.inj q)) (by decide) (by decide) ?_
  refine g_aloadN X0 K (q := 8) d9_7 rfl rfl rfl ?_
  refine g_instY X0 K (q := 11) (w64 H) e0 (Ins.self E_1) d9_8 rfl ?_
  intro T1 X1 e1
  refine g_ifN X1 K (q := 14) d9_11 (by decide) rfl ?_
  refine g_aloadN X1 K (q := 15) d9_14 rfl rfl rfl ?_
  refine g_cast X1 K (q := 18) (w64 H) e1 (Ins.self E_1) d9_15 rfl ?_
  intro T2 X2 e2
  refine g_astoreN X2 K (q := 19) (L' := #[.val (.ref (ad11 Z a0)), .val (.ref a1), .val (.ref a1)]) d9_18 rfl rfl rfl ?_
  refine g_gets X2 K (q := 22) (w65 H) e2 ((ivs0 H).ext Ol0.2) d9_19 rfl ?_
  intro T3 X3 e3
  refine g_ifN X3 K (q := 25) d9_22 (feq (ivn0 H)).1 rfl ?_
  refine g_aloadN X3 K (q := 26) d9_25 rfl rfl rfl ?_
  refine g_getf X3 K (q := 29) (w28 H) Via.refl e3 ((f11_coder H).ext Ol0.2) d9_26 rfl ?_
  intro T4 X4 e4
  refine g_aloadN X4 K (q := 30) d9_29 rfl rfl rfl ?_
  refine g_getf X4 K (q := 33) (w28 H) Via.refl e4 F_1 d9_30 rfl ?_
  intro T5 X5 e5
  refine g_icN X5 K (q := 36) d9_33 (by decide) rfl ?_
  refine g_aloadN X5 K (q := 37) d9_36 rfl rfl rfl ?_
  refine g_getf X5 K (q := 40) (w27 H) Via.refl e5 ((f11_value H).ext Ol0.2) d9_37 rfl ?_
  intro T6 X6 e6
  refine g_aloadN X6 K (q := 41) d9_40 rfl rfl rfl ?_
  refine g_getf X6 K (q := 44) (w27 H) Via.refl e6 F_2 d9_41 rfl ?_
  intro T7 X7 e7
  refine g_static X7 K (q := 47) (W := 0) (w66 H) (w67 H) (w68 H) (w69 H) (by decide) (rm10_69 l H a2 p1 p2 k1 h0 Ol0 A_1) e7 rfl (argsL := [(.ref (ad17 Z a0)), (.ref a2)]) (rest := []) (lenOf pd_6 rfl) rfl rfl (Nat.le_of_eq rfl) d9_44 (by decide) (by decide) (by decide) (by decide) rfl ?_
  rintro T8 v8 L8 X8 ⟨rfl, N8q, e8⟩
  have N8 := Fr.app (Fr.nil _) N8q
  show Go p e below _ T8 (mkF m 47 #[.val (.ref (ad11 Z a0)), .val (.ref a1), .val (.ref a1)] [(.int (0 : Int32))])
  refine g_ifY X8 K (q := 54) d9_47 (by decide) (by decide) (by decide) ?_
  refine g_iconst X8 K (q := 55) (v := (0 : Int32)) d9_54 (by decide) rfl ?_
  refine g_nret X8 K (by simp) (z' := (0 : Int32)) (by decide) d9_55 (by decide) (by decide) ?_
  exact ⟨rfl, N8, e8⟩
set_option maxRecDepth 65536 in
set_option maxHeartbeats 40000000 in
theorem rm10_71 (l : Launch) {Z : State} {a0 : Array Value} (H : Hyp Z a0) (a1 : Addr) (p1 : Int32) (p2 : Int32) (k1 : ClassId) (h0 : Heap) (Ol : Old Z Z.heap.size h0) (A_1 : Arv Z h0 a1 k1 .byte (2 : Int32) [(.int p1), (.int p2)] (.int (0 : Int32))) (hc_1 : (62 : Int32) = p1) (hc_2 : (61 : Int32) = p2) :
    Mt l Z (⟨"java/lang/StringLatin1", "equals", "([B[B)Z"⟩ : MethodName) jdk_43_method_13_code 3 (some .boolean) [] ({ frames := 0, cells := 0, slots := 0, locals := 0 } : Room) #[(.ref (ad18 Z a0)), (.ref a1)] h0 (fun v h L => (v = some (.int (1 : Int32)) ∧ Fr Z.heap.size L ∧ h = h0)) := by
  refine g_body (plainFor_of_name pn_java_lang_StringLatin1) ?_
  intro p e s m below meth c T0 K X0 e0
  refine g_entry (ef_6 m (ad18 Z a0) a1) ?_
  have Ol0 := Ol
  refine g_aloadN X0 K (q := 1) d10_0 rfl rfl rfl ?_
  refine g_len X0 K (q := 2) e0 ((v18 H).ext Ol0.2) d10_1 rfl ?_
  refine g_aloadN X0 K (q := 3) d10_2 rfl rfl rfl ?_
  refine g_len X0 K (q := 4) e0 A_1 d10_3 rfl ?_
  refine g_icN X0 K (q := 7) d10_4 (by decide) rfl ?_
  refine g_iconst X0 K (q := 8) (v := (0 : Int32)) d10_7 (by decide) rfl ?_
  refine g_istoreN X0 K (q := 9) (L' := #[.val (.ref (ad18 Z a0)), .val (.ref a1), .val (.int (0 : Int32))]) d10_8 rfl rfl ?_
  refine g_iloadN X0 K (q := 10) d10_9 rfl rfl ?_
  refine g_aloadN X0 K (q := 11) d10_10 rfl rfl rfl ?_
  refine g_len X0 K (q := 12) e0 ((v18 H).ext Ol0.2) d10_11 rfl ?_
  refine g_icN X0 K (q := 15) d10_12 (by decide) rfl ?_
  refine g_aloadN X0 K (q := 16) d10_15 rfl rfl rfl ?_
  refine g_iloadN X0 K (q := 17) d10_16 rfl rfl ?_
  refine g_bald X0 K (q := 18) (v := (.int (62 : Int32))) e0 ((v18 H).ext Ol0.2) (by decide) rfl d10_17 rfl ?_
  refine g_aloadN X0 K (q := 19) d10_18 rfl rfl rfl ?_
  refine g_iloadN X0 K (q := 20) d10_19 rfl rfl ?_
  refine g_bald X0 K (q := 21) (v := (.int p1)) e0 A_1 (by decide) rfl d10_20 rfl ?_
  refine g_icY X0 K (q := 26) d10_21 (teq hc_1).1 (by decide) (by decide) ?_
  refine g_iinc X0 K (q := 29) (z := (1 : Int32)) (L' := #[.val (.ref (ad18 Z a0)), .val (.ref a1), .val (.int (1 : Int32))]) d10_26 rfl (by decide) rfl rfl ?_
  refine g_goto X0 K (q := 9) d10_29 (by decide) (by decide) ?_
  refine g_iloadN X0 K (q := 10) d10_9 rfl rfl ?_
  refine g_aloadN X0 K (q := 11) d10_10 rfl rfl rfl ?_
  refine g_len X0 K (q := 12) e0 ((v18 H).ext Ol0.2) d10_11 rfl ?_
  refine g_icN X0 K (q := 15) d10_12 (by decide) rfl ?_
  refine g_aloadN X0 K (q := 16) d10_15 rfl rfl rfl ?_
  refine g_iloadN X0 K (q := 17) d10_16 rfl rfl ?_
  refine g_bald X0 K (q := 18) (v := (.int (61 : Int32))) e0 ((v18 H).ext Ol0.2) (by decide) rfl d10_17 rfl ?_
  refine g_aloadN X0 K (q := 19) d10_18 rfl rfl rfl ?_
  refine g_iloadN X0 K (q := 20) d10_19 rfl rfl ?_
  refine g_bald X0 K (q := 21) (v := (.int p2)) e0 A_1 (by decide) rfl d10_20 rfl ?_
  refine g_icY X0 K (q := 26) d10_21 (teq hc_2).1 (by decide) (by decide) ?_
  refine g_iinc X0 K (q := 29) (z := (2 : Int32)) (L' := #[.val (.ref (ad18 Z a0)), .val (.ref a1), .val (.int (2 : Int32))]) d10_26 rfl (by decide) rfl rfl ?_
  refine g_goto X0 K (q := 9) d10_29 (by decide) (by decide) ?_
  refine g_iloadN X0 K (q := 10) d10_9 rfl rfl ?_
  refine g_aloadN X0 K (q := 11) d10_10 rfl rfl rfl ?_
  refine g_len X0 K (q := 12) e0 ((v18 H).ext Ol0.2) d10_11 rfl ?_
  refine g_icY X0 K (q := 32) d10_12 (by decide) (by decide) (by decide) ?_
  refine g_iconst X0 K (q := 33) (v := (1 : Int32)) d10_32 (by decide) rfl ?_
  refine g_nret X0 K (by simp) (z' := (1 : Int32)) (by decide) d10_33 (by decide) (by decide) ?_
  exact ⟨rfl, (Fr.nil _), e0⟩
set_option maxRecDepth 65536 in
set_option maxHeartbeats 40000000 in
theorem rm9_72 (l : Launch) {Z : State} {a0 : Array Value} (H : Hyp Z a0) (a1 : Addr) (a2 : Addr) (p1 : Int32) (p2 : Int32) (k1 : ClassId) (h0 : Heap) (Ol : Old Z Z.heap.size h0) (ge_1 : Z.heap.size ≤ a1) (E_1 : Exa Z h0 a1 "java/lang/String") (F_1 : Fld Z h0 a1 "java/lang/String" "coder" "B" (.int (0 : Int32))) (F_2 : Fld Z h0 a1 "java/lang/String" "value" "[B" (.ref a2)) (A_1 : Arv Z h0 a2 k1 .byte (2 : Int32) [(.int p1), (.int p2)] (.int (0 : Int32))) (hc_1 : (62 : Int32) = p1) (hc_2 : (61 : Int32) = p2) :
    Mt l Z (⟨"java/lang/String", "equals", "(Ljava/lang/Object;)Z"⟩ : MethodName) jdk_42_method_66_code 3 (some .boolean) [] ({ frames := 1, cells := 0, slots := 0, locals := 14 } : Room) #[(.ref (ad12 Z a0)), (.ref a1)] h0 (fun v h L => (v = some (.int (1 : Int32)) ∧ Fr Z.heap.size L ∧ h = h0)) := by
  refine g_body (plainFor_of_name pn_java_lang_String) ?_
  intro p e s m below meth c T0 K X0 e0
  refine g_entry (ef_6 m (ad12 Z a0) a1) ?_
  have Ol0 := Ol
  refine g_aloadN X0 K (q := 1) d9_0 rfl rfl rfl ?_
  refine g_aloadN X0 K (q := 2) d9_1 rfl rfl rfl ?_
  have ne1 : (ad12 Z a0) ≠ a1 := (Nat.ne_of_lt (Nat.lt_of_lt_of_le (f12_value H).lt ge_1))
  refine g_ac X0 K (q := 7) (same := false) d9_2 rfl rfl (decide_eq_false fun q => ne1 (Value.ref.inj q)) (by decide) (by decide) ?_
  refine g_aloadN X0 K (q := 8) d9_7 rfl rfl rfl ?_
  refine g_instY X0 K (q := 11) (w64 H) e0 (Ins.self E_1) d9_8 rfl ?_
  intro T1 X1 e1
  refine g_ifN X1 K (q := 14) d9_11 (by decide) rfl ?_
  refine g_aloadN X1 K (q := 15) d9_14 rfl rfl rfl ?_
  refine g_cast X1 K (q := 18) (w64 H) e1 (Ins.self E_1) d9_15 rfl ?_
  intro T2 X2 e2
  refine g_astoreN X2 K (q := 19) (L' := #[.val (.ref (ad12 Z a0)), .val (.ref a1), .val (.ref a1)]) d9_18 rfl rfl rfl ?_
  refine g_gets X2 K (q := 22) (w65 H) e2 ((ivs0 H).ext Ol0.2) d9_19 rfl ?_
  intro T3 X3 e3
  refine g_ifN X3 K (q := 25) d9_22 (feq (ivn0 H)).1 rfl ?_
  refine g_aloadN X3 K (q := 26) d9_25 rfl rfl rfl ?_
  refine g_getf X3 K (q := 29) (w28 H) Via.refl e3 ((f12_coder H).ext Ol0.2) d9_26 rfl ?_
  intro T4 X4 e4
  refine g_aloadN X4 K (q := 30) d9_29 rfl rfl rfl ?_
  refine g_getf X4 K (q := 33) (w28 H) Via.refl e4 F_1 d9_30 rfl ?_
  intro T5 X5 e5
  refine g_icN X5 K (q := 36) d9_33 (by decide) rfl ?_
  refine g_aloadN X5 K (q := 37) d9_36 rfl rfl rfl ?_
  refine g_getf X5 K (q := 40) (w27 H) Via.refl e5 ((f12_value H).ext Ol0.2) d9_37 rfl ?_
  intro T6 X6 e6
  refine g_aloadN X6 K (q := 41) d9_40 rfl rfl rfl ?_
  refine g_getf X6 K (q := 44) (w27 H) Via.refl e6 F_2 d9_41 rfl ?_
  intro T7 X7 e7
  refine g_static X7 K (q := 47) (W := 0) (w66 H) (w67 H) (w68 H) (w69 H) (by decide) (rm10_71 l H a2 p1 p2 k1 h0 Ol0 A_1 hc_1 hc_2) e7 rfl (argsL := [(.ref (ad18 Z a0)), (.ref a2)]) (rest := []) (lenOf pd_6 rfl) rfl rfl (Nat.le_of_eq rfl) d9_44 (by decide) (by decide) (by decide) (by decide) rfl ?_
  rintro T8 v8 L8 X8 ⟨rfl, N8q, e8⟩
  have N8 := Fr.app (Fr.nil _) N8q
  show Go p e below _ T8 (mkF m 47 #[.val (.ref (ad12 Z a0)), .val (.ref a1), .val (.ref a1)] [(.int (1 : Int32))])
  refine g_ifN X8 K (q := 50) d9_47 (by decide) rfl ?_
  refine g_iconst X8 K (q := 51) (v := (1 : Int32)) d9_50 (by decide) rfl ?_
  refine g_goto X8 K (q := 55) d9_51 (by decide) (by decide) ?_
  refine g_nret X8 K (by simp) (z' := (1 : Int32)) (by decide) d9_55 (by decide) (by decide) ?_
  exact ⟨rfl, N8, e8⟩
set_option maxRecDepth 65536 in
set_option maxHeartbeats 40000000 in
theorem rm7_73 (l : Launch) {Z : State} {a0 : Array Value} (H : Hyp Z a0) (a1 : Addr) (a2 : Addr) (p1 : Int32) (p2 : Int32) (k1 : ClassId) (h0 : Heap) (Ol : Old Z Z.heap.size h0) (F_1 : Fld Z h0 a1 "java/lang/String" "coder" "B" (.int (0 : Int32))) (F_2 : Fld Z h0 a1 "java/lang/String" "value" "[B" (.ref a2)) (A_1 : Arv Z h0 a2 k1 .byte (2 : Int32) [(.int p1), (.int p2)] (.int (0 : Int32))) (ge_1 : Z.heap.size ≤ a1) (E_1 : Exa Z h0 a1 "java/lang/String") (hc_1 : ¬ ((33 : Int32) = p1)) (hc_2 : ¬ ((60 : Int32) = p1)) (hc_3 : (62 : Int32) = p1) (hc_4 : (61 : Int32) = p2) :
    Mt l Z (⟨"com/example/annotable/annotable/PathQuery$Comparison", "of", "(Ljava/lang/String;)Lcom/example/annotable/annotable/PathQuery$Comparison;"⟩ : MethodName) prog_16_method_6_code 5 (some (.object "com/example/annotable/annotable/PathQuery$Comparison")) [] ({ frames := 2, cells := 1, slots := 6, locals := 28 } : Room) #[(.ref a1)] h0 (fun v h L => (v = some (.ref (ad6 Z a0)) ∧ Fr Z.heap.size L ∧ Keep h0 h [])) := by
  refine g_body (plainFor_of_name pn_com_example_annotable_annotable_PathQuery_Comparison) ?_
  intro p e s m below meth c T0 K X0 e0
  refine g_entry (ef_7 m a1) ?_
  have nw_a1 : a1 ∉ [] := nin0
  have nw_a2 : a2 ∉ [] := nin0
  have Ol0 := Ol
  refine g_static X0 K (q := 3) (W := 0) (w36 H) (w37 H) (w34 H) (w38 H) (by decide) (rm8_6 l H h0 Ol0) e0 rfl (argsL := []) (rest := []) (lenOf pd_5 rfl) rfl rfl (Nat.le_of_eq rfl) d7_0 (by decide) (by decide) (by decide) (by decide) rfl ?_
  rintro T1 v1 L1 X1 ⟨bx1, rfl, N1q, Kc1, lz1_0, g1, g2⟩
  have szbx1 := Nat.le_trans (Keep.refl h0 []).1 lz1_0
  have gebx1 := Nat.le_trans Ol0.2.1 lz1_0
  have so1 := Sd.one bx1
  obtain ⟨N1, Ol1, Kp1⟩ := ivK (Fr.nil _) Ol0 (Keep.refl h0 []) N1q Kc1 all0 all0
  show Go p e below _ T1 (mkF m 3 #[.val (.ref a1), .unset, .unset, .unset, .unset] [(.ref bx1)])
  refine g_astoreN X1 K (q := 4) (L' := #[.val (.ref a1), .val (.ref bx1), .unset, .unset, .unset]) d7_3 rfl rfl rfl ?_
  refine g_aloadN X1 K (q := 5) d7_4 rfl rfl rfl ?_
  refine g_len X1 K (q := 6) rfl g1 d7_5 rfl ?_
  refine g_istoreN X1 K (q := 7) (L' := #[.val (.ref a1), .val (.ref bx1), .val (.int (6 : Int32)), .unset, .unset]) d7_6 rfl rfl ?_
  refine g_iconst X1 K (q := 8) (v := (0 : Int32)) d7_7 (by decide) rfl ?_
  refine g_istoreN X1 K (q := 9) (L' := #[.val (.ref a1), .val (.ref bx1), .val (.int (6 : Int32)), .val (.int (0 : Int32)), .unset]) d7_8 rfl rfl ?_
  refine g_iloadN X1 K (q := 10) d7_9 rfl rfl ?_
  refine g_iloadN X1 K (q := 11) d7_10 rfl rfl ?_
  refine g_icN X1 K (q := 14) d7_11 (by decide) rfl ?_
  refine g_aloadN X1 K (q := 15) d7_14 rfl rfl rfl ?_
  refine g_iloadN X1 K (q := 16) d7_15 rfl rfl ?_
  refine g_aald X1 K (q := 17) (v := (.ref (ad1 Z a0))) rfl g1 rfl (by decide) rfl d7_16 rfl ?_
  refine g_astore X1 K (q := 19) (L' := #[.val (.ref a1), .val (.ref bx1), .val (.int (6 : Int32)), .val (.int (0 : Int32)), .val (.ref (ad1 Z a0))]) d7_17 rfl rfl rfl ?_
  refine g_aload X1 K (q := 21) d7_19 rfl rfl rfl ?_
  refine g_getf X1 K (q := 24) (w57 H) Via.refl rfl ((f1_symbol H).ext Ol1.2) d7_21 rfl ?_
  intro T2 X2 e2
  refine g_aloadN X2 K (q := 25) d7_24 rfl rfl rfl ?_
  have f1 := E_1.keep Kp1
  have f2 := F_1.keep Kp1 nw_a1
  have f3 := F_2.keep Kp1 nw_a1
  have f4 := A_1.keep Kp1 nw_a2
  refine g_virtual X2 K (q := 28) (W := 0) (a := (ad7 Z a0)) (w59 H) (w60 H) (nf_self K (w62 H)) (w62 H) (w61 H) (w9 H) (w63 H) (by decide) (rm9_56 l H a1 a2 p1 p2 k1 T1.heap Ol1 ge_1 f1 f2 f3 f4) e2 ((x7 H).ext Ol1.2) rfl (argsL := [(.ref a1)]) (rest := []) (lenOf pd_7 rfl) rfl rfl (Nat.le_of_eq rfl) d7_25 (by decide) (by decide) (by decide) (by decide) rfl ?_
  rintro T3 v3 L3 X3 ⟨rfl, N3q, e3⟩
  have N3 := Fr.app N1 N3q
  show Go p e below _ T3 (mkF m 28 #[.val (.ref a1), .val (.ref bx1), .val (.int (6 : Int32)), .val (.int (0 : Int32)), .val (.ref (ad1 Z a0))] [(.int (0 : Int32))])
  refine g_ifY X3 K (q := 34) d7_28 (by decide) (by decide) (by decide) ?_
  refine g_iinc X3 K (q := 37) (z := (1 : Int32)) (L' := #[.val (.ref a1), .val (.ref bx1), .val (.int (6 : Int32)), .val (.int (1 : Int32)), .val (.ref (ad1 Z a0))]) d7_34 rfl (by decide) rfl rfl ?_
  refine g_goto X3 K (q := 9) d7_37 (by decide) (by decide) ?_
  refine g_iloadN X3 K (q := 10) d7_9 rfl rfl ?_
  refine g_iloadN X3 K (q := 11) d7_10 rfl rfl ?_
  refine g_icN X3 K (q := 14) d7_11 (by decide) rfl ?_
  refine g_aloadN X3 K (q := 15) d7_14 rfl rfl rfl ?_
  refine g_iloadN X3 K (q := 16) d7_15 rfl rfl ?_
  refine g_aald X3 K (q := 17) (v := (.ref (ad2 Z a0))) e3 g1 rfl (by decide) rfl d7_16 rfl ?_
  refine g_astore X3 K (q := 19) (L' := #[.val (.ref a1), .val (.ref bx1), .val (.int (6 : Int32)), .val (.int (1 : Int32)), .val (.ref (ad2 Z a0))]) d7_17 rfl rfl rfl ?_
  refine g_aload X3 K (q := 21) d7_19 rfl rfl rfl ?_
  refine g_getf X3 K (q := 24) (w57 H) Via.refl e3 ((f2_symbol H).ext Ol1.2) d7_21 rfl ?_
  intro T4 X4 e4
  refine g_aloadN X4 K (q := 25) d7_24 rfl rfl rfl ?_
  refine g_virtual X4 K (q := 28) (W := 0) (a := (ad8 Z a0)) (w59 H) (w60 H) (nf_self K (w62 H)) (w62 H) (w61 H) (w9 H) (w63 H) (by decide) (rm9_61 l H a1 a2 p1 p2 k1 T1.heap Ol1 ge_1 f1 f2 f3 f4 hc_1) e4 ((x8 H).ext Ol1.2) rfl (argsL := [(.ref a1)]) (rest := []) (lenOf pd_7 rfl) rfl rfl (Nat.le_of_eq rfl) d7_25 (by decide) (by decide) (by decide) (by decide) rfl ?_
  rintro T5 v5 L5 X5 ⟨rfl, N5q, e5⟩
  have N5 := Fr.app N3 N5q
  show Go p e below _ T5 (mkF m 28 #[.val (.ref a1), .val (.ref bx1), .val (.int (6 : Int32)), .val (.int (1 : Int32)), .val (.ref (ad2 Z a0))] [(.int (0 : Int32))])
  refine g_ifY X5 K (q := 34) d7_28 (by decide) (by decide) (by decide) ?_
  refine g_iinc X5 K (q := 37) (z := (2 : Int32)) (L' := #[.val (.ref a1), .val (.ref bx1), .val (.int (6 : Int32)), .val (.int (2 : Int32)), .val (.ref (ad2 Z a0))]) d7_34 rfl (by decide) rfl rfl ?_
  refine g_goto X5 K (q := 9) d7_37 (by decide) (by decide) ?_
  refine g_iloadN X5 K (q := 10) d7_9 rfl rfl ?_
  refine g_iloadN X5 K (q := 11) d7_10 rfl rfl ?_
  refine g_icN X5 K (q := 14) d7_11 (by decide) rfl ?_
  refine g_aloadN X5 K (q := 15) d7_14 rfl rfl rfl ?_
  refine g_iloadN X5 K (q := 16) d7_15 rfl rfl ?_
  refine g_aald X5 K (q := 17) (v := (.ref (ad3 Z a0))) e5 g1 rfl (by decide) rfl d7_16 rfl ?_
  refine g_astore X5 K (q := 19) (L' := #[.val (.ref a1), .val (.ref bx1), .val (.int (6 : Int32)), .val (.int (2 : Int32)), .val (.ref (ad3 Z a0))]) d7_17 rfl rfl rfl ?_
  refine g_aload X5 K (q := 21) d7_19 rfl rfl rfl ?_
  refine g_getf X5 K (q := 24) (w57 H) Via.refl e5 ((f3_symbol H).ext Ol1.2) d7_21 rfl ?_
  intro T6 X6 e6
  refine g_aloadN X6 K (q := 25) d7_24 rfl rfl rfl ?_
  refine g_virtual X6 K (q := 28) (W := 0) (a := (ad9 Z a0)) (w59 H) (w60 H) (nf_self K (w62 H)) (w62 H) (w61 H) (w9 H) (w63 H) (by decide) (rm9_63 l H a1 a2 p1 p2 k1 T1.heap Ol1 ge_1 f1 f2 f3 f4) e6 ((x9 H).ext Ol1.2) rfl (argsL := [(.ref a1)]) (rest := []) (lenOf pd_7 rfl) rfl rfl (Nat.le_of_eq rfl) d7_25 (by decide) (by decide) (by decide) (by decide) rfl ?_
  rintro T7 v7 L7 X7 ⟨rfl, N7q, e7⟩
  have N7 := Fr.app N5 N7q
  show Go p e below _ T7 (mkF m 28 #[.val (.ref a1), .val (.ref bx1), .val (.int (6 : Int32)), .val (.int (2 : Int32)), .val (.ref (ad3 Z a0))] [(.int (0 : Int32))])
  refine g_ifY X7 K (q := 34) d7_28 (by decide) (by decide) (by decide) ?_
  refine g_iinc X7 K (q := 37) (z := (3 : Int32)) (L' := #[.val (.ref a1), .val (.ref bx1), .val (.int (6 : Int32)), .val (.int (3 : Int32)), .val (.ref (ad3 Z a0))]) d7_34 rfl (by decide) rfl rfl ?_
  refine g_goto X7 K (q := 9) d7_37 (by decide) (by decide) ?_
  refine g_iloadN X7 K (q := 10) d7_9 rfl rfl ?_
  refine g_iloadN X7 K (q := 11) d7_10 rfl rfl ?_
  refine g_icN X7 K (q := 14) d7_11 (by decide) rfl ?_
  refine g_aloadN X7 K (q := 15) d7_14 rfl rfl rfl ?_
  refine g_iloadN X7 K (q := 16) d7_15 rfl rfl ?_
  refine g_aald X7 K (q := 17) (v := (.ref (ad4 Z a0))) e7 g1 rfl (by decide) rfl d7_16 rfl ?_
  refine g_astore X7 K (q := 19) (L' := #[.val (.ref a1), .val (.ref bx1), .val (.int (6 : Int32)), .val (.int (3 : Int32)), .val (.ref (ad4 Z a0))]) d7_17 rfl rfl rfl ?_
  refine g_aload X7 K (q := 21) d7_19 rfl rfl rfl ?_
  refine g_getf X7 K (q := 24) (w57 H) Via.refl e7 ((f4_symbol H).ext Ol1.2) d7_21 rfl ?_
  intro T8 X8 e8
  refine g_aloadN X8 K (q := 25) d7_24 rfl rfl rfl ?_
  refine g_virtual X8 K (q := 28) (W := 0) (a := (ad10 Z a0)) (w59 H) (w60 H) (nf_self K (w62 H)) (w62 H) (w61 H) (w9 H) (w63 H) (by decide) (rm9_68 l H a1 a2 p1 p2 k1 T1.heap Ol1 ge_1 f1 f2 f3 f4 hc_2) e8 ((x10 H).ext Ol1.2) rfl (argsL := [(.ref a1)]) (rest := []) (lenOf pd_7 rfl) rfl rfl (Nat.le_of_eq rfl) d7_25 (by decide) (by decide) (by decide) (by decide) rfl ?_
  rintro T9 v9 L9 X9 ⟨rfl, N9q, e9⟩
  have N9 := Fr.app N7 N9q
  show Go p e below _ T9 (mkF m 28 #[.val (.ref a1), .val (.ref bx1), .val (.int (6 : Int32)), .val (.int (3 : Int32)), .val (.ref (ad4 Z a0))] [(.int (0 : Int32))])
  refine g_ifY X9 K (q := 34) d7_28 (by decide) (by decide) (by decide) ?_
  refine g_iinc X9 K (q := 37) (z := (4 : Int32)) (L' := #[.val (.ref a1), .val (.ref bx1), .val (.int (6 : Int32)), .val (.int (4 : Int32)), .val (.ref (ad4 Z a0))]) d7_34 rfl (by decide) rfl rfl ?_
  refine g_goto X9 K (q := 9) d7_37 (by decide) (by decide) ?_
  refine g_iloadN X9 K (q := 10) d7_9 rfl rfl ?_
  refine g_iloadN X9 K (q := 11) d7_10 rfl rfl ?_
  refine g_icN X9 K (q := 14) d7_11 (by decide) rfl ?_
  refine g_aloadN X9 K (q := 15) d7_14 rfl rfl rfl ?_
  refine g_iloadN X9 K (q := 16) d7_15 rfl rfl ?_
  refine g_aald X9 K (q := 17) (v := (.ref (ad5 Z a0))) e9 g1 rfl (by decide) rfl d7_16 rfl ?_
  refine g_astore X9 K (q := 19) (L' := #[.val (.ref a1), .val (.ref bx1), .val (.int (6 : Int32)), .val (.int (4 : Int32)), .val (.ref (ad5 Z a0))]) d7_17 rfl rfl rfl ?_
  refine g_aload X9 K (q := 21) d7_19 rfl rfl rfl ?_
  refine g_getf X9 K (q := 24) (w57 H) Via.refl e9 ((f5_symbol H).ext Ol1.2) d7_21 rfl ?_
  intro T10 X10 e10
  refine g_aloadN X10 K (q := 25) d7_24 rfl rfl rfl ?_
  refine g_virtual X10 K (q := 28) (W := 0) (a := (ad11 Z a0)) (w59 H) (w60 H) (nf_self K (w62 H)) (w62 H) (w61 H) (w9 H) (w63 H) (by decide) (rm9_70 l H a1 a2 p1 p2 k1 T1.heap Ol1 ge_1 f1 f2 f3 f4) e10 ((x11 H).ext Ol1.2) rfl (argsL := [(.ref a1)]) (rest := []) (lenOf pd_7 rfl) rfl rfl (Nat.le_of_eq rfl) d7_25 (by decide) (by decide) (by decide) (by decide) rfl ?_
  rintro T11 v11 L11 X11 ⟨rfl, N11q, e11⟩
  have N11 := Fr.app N9 N11q
  show Go p e below _ T11 (mkF m 28 #[.val (.ref a1), .val (.ref bx1), .val (.int (6 : Int32)), .val (.int (4 : Int32)), .val (.ref (ad5 Z a0))] [(.int (0 : Int32))])
  refine g_ifY X11 K (q := 34) d7_28 (by decide) (by decide) (by decide) ?_
  refine g_iinc X11 K (q := 37) (z := (5 : Int32)) (L' := #[.val (.ref a1), .val (.ref bx1), .val (.int (6 : Int32)), .val (.int (5 : Int32)), .val (.ref (ad5 Z a0))]) d7_34 rfl (by decide) rfl rfl ?_
  refine g_goto X11 K (q := 9) d7_37 (by decide) (by decide) ?_
  refine g_iloadN X11 K (q := 10) d7_9 rfl rfl ?_
  refine g_iloadN X11 K (q := 11) d7_10 rfl rfl ?_
  refine g_icN X11 K (q := 14) d7_11 (by decide) rfl ?_
  refine g_aloadN X11 K (q := 15) d7_14 rfl rfl rfl ?_
  refine g_iloadN X11 K (q := 16) d7_15 rfl rfl ?_
  refine g_aald X11 K (q := 17) (v := (.ref (ad6 Z a0))) e11 g1 rfl (by decide) rfl d7_16 rfl ?_
  refine g_astore X11 K (q := 19) (L' := #[.val (.ref a1), .val (.ref bx1), .val (.int (6 : Int32)), .val (.int (5 : Int32)), .val (.ref (ad6 Z a0))]) d7_17 rfl rfl rfl ?_
  refine g_aload X11 K (q := 21) d7_19 rfl rfl rfl ?_
  refine g_getf X11 K (q := 24) (w57 H) Via.refl e11 ((f6_symbol H).ext Ol1.2) d7_21 rfl ?_
  intro T12 X12 e12
  refine g_aloadN X12 K (q := 25) d7_24 rfl rfl rfl ?_
  refine g_virtual X12 K (q := 28) (W := 0) (a := (ad12 Z a0)) (w59 H) (w60 H) (nf_self K (w62 H)) (w62 H) (w61 H) (w9 H) (w63 H) (by decide) (rm9_72 l H a1 a2 p1 p2 k1 T1.heap Ol1 ge_1 f1 f2 f3 f4 hc_3 hc_4) e12 ((x12 H).ext Ol1.2) rfl (argsL := [(.ref a1)]) (rest := []) (lenOf pd_7 rfl) rfl rfl (Nat.le_of_eq rfl) d7_25 (by decide) (by decide) (by decide) (by decide) rfl ?_
  rintro T13 v13 L13 X13 ⟨rfl, N13q, e13⟩
  have N13 := Fr.app N11 N13q
  show Go p e below _ T13 (mkF m 28 #[.val (.ref a1), .val (.ref bx1), .val (.int (6 : Int32)), .val (.int (5 : Int32)), .val (.ref (ad6 Z a0))] [(.int (1 : Int32))])
  refine g_ifN X13 K (q := 31) d7_28 (by decide) rfl ?_
  refine g_aload X13 K (q := 33) d7_31 rfl rfl rfl ?_
  refine g_aret X13 K rfl rfl rfl d7_33 (by decide) (by decide) ?_
  have Kp : Keep h0 T13.heap [] := by rw [e13]; exact Kp1
  exact ⟨rfl, N13, Kp⟩
set_option maxRecDepth 65536 in
set_option maxHeartbeats 40000000 in
theorem rm10_74 (l : Launch) {Z : State} {a0 : Array Value} (H : Hyp Z a0) (a1 : Addr) (p1 : Int32) (p2 : Int32) (k1 : ClassId) (h0 : Heap) (Ol : Old Z Z.heap.size h0) (A_1 : Arv Z h0 a1 k1 .byte (2 : Int32) [(.int p1), (.int p2)] (.int (0 : Int32))) (hc_1 : ¬ ((62 : Int32) = p1)) :
    Mt l Z (⟨"java/lang/StringLatin1", "equals", "([B[B)Z"⟩ : MethodName) jdk_43_method_13_code 3 (some .boolean) [] ({ frames := 0, cells := 0, slots := 0, locals := 0 } : Room) #[(.ref (ad18 Z a0)), (.ref a1)] h0 (fun v h L => (v = some (.int (0 : Int32)) ∧ Fr Z.heap.size L ∧ h = h0)) := by
  refine g_body (plainFor_of_name pn_java_lang_StringLatin1) ?_
  intro p e s m below meth c T0 K X0 e0
  refine g_entry (ef_6 m (ad18 Z a0) a1) ?_
  have Ol0 := Ol
  refine g_aloadN X0 K (q := 1) d10_0 rfl rfl rfl ?_
  refine g_len X0 K (q := 2) e0 ((v18 H).ext Ol0.2) d10_1 rfl ?_
  refine g_aloadN X0 K (q := 3) d10_2 rfl rfl rfl ?_
  refine g_len X0 K (q := 4) e0 A_1 d10_3 rfl ?_
  refine g_icN X0 K (q := 7) d10_4 (by decide) rfl ?_
  refine g_iconst X0 K (q := 8) (v := (0 : Int32)) d10_7 (by decide) rfl ?_
  refine g_istoreN X0 K (q := 9) (L' := #[.val (.ref (ad18 Z a0)), .val (.ref a1), .val (.int (0 : Int32))]) d10_8 rfl rfl ?_
  refine g_iloadN X0 K (q := 10) d10_9 rfl rfl ?_
  refine g_aloadN X0 K (q := 11) d10_10 rfl rfl rfl ?_
  refine g_len X0 K (q := 12) e0 ((v18 H).ext Ol0.2) d10_11 rfl ?_
  refine g_icN X0 K (q := 15) d10_12 (by decide) rfl ?_
  refine g_aloadN X0 K (q := 16) d10_15 rfl rfl rfl ?_
  refine g_iloadN X0 K (q := 17) d10_16 rfl rfl ?_
  refine g_bald X0 K (q := 18) (v := (.int (62 : Int32))) e0 ((v18 H).ext Ol0.2) (by decide) rfl d10_17 rfl ?_
  refine g_aloadN X0 K (q := 19) d10_18 rfl rfl rfl ?_
  refine g_iloadN X0 K (q := 20) d10_19 rfl rfl ?_
  refine g_bald X0 K (q := 21) (v := (.int p1)) e0 A_1 (by decide) rfl d10_20 rfl ?_
  refine g_icN X0 K (q := 24) d10_21 (feq hc_1).1 rfl ?_
  refine g_iconst X0 K (q := 25) (v := (0 : Int32)) d10_24 (by decide) rfl ?_
  refine g_nret X0 K (by simp) (z' := (0 : Int32)) (by decide) d10_25 (by decide) (by decide) ?_
  exact ⟨rfl, (Fr.nil _), e0⟩
set_option maxRecDepth 65536 in
set_option maxHeartbeats 40000000 in
theorem rm9_75 (l : Launch) {Z : State} {a0 : Array Value} (H : Hyp Z a0) (a1 : Addr) (a2 : Addr) (p1 : Int32) (p2 : Int32) (k1 : ClassId) (h0 : Heap) (Ol : Old Z Z.heap.size h0) (ge_1 : Z.heap.size ≤ a1) (E_1 : Exa Z h0 a1 "java/lang/String") (F_1 : Fld Z h0 a1 "java/lang/String" "coder" "B" (.int (0 : Int32))) (F_2 : Fld Z h0 a1 "java/lang/String" "value" "[B" (.ref a2)) (A_1 : Arv Z h0 a2 k1 .byte (2 : Int32) [(.int p1), (.int p2)] (.int (0 : Int32))) (hc_1 : ¬ ((62 : Int32) = p1)) :
    Mt l Z (⟨"java/lang/String", "equals", "(Ljava/lang/Object;)Z"⟩ : MethodName) jdk_42_method_66_code 3 (some .boolean) [] ({ frames := 1, cells := 0, slots := 0, locals := 14 } : Room) #[(.ref (ad12 Z a0)), (.ref a1)] h0 (fun v h L => (v = some (.int (0 : Int32)) ∧ Fr Z.heap.size L ∧ h = h0)) := by
  refine g_body (plainFor_of_name pn_java_lang_String) ?_
  intro p e s m below meth c T0 K X0 e0
  refine g_entry (ef_6 m (ad12 Z a0) a1) ?_
  have Ol0 := Ol
  refine g_aloadN X0 K (q := 1) d9_0 rfl rfl rfl ?_
  refine g_aloadN X0 K (q := 2) d9_1 rfl rfl rfl ?_
  have ne1 : (ad12 Z a0) ≠ a1 := (Nat.ne_of_lt (Nat.lt_of_lt_of_le (f12_value H).lt ge_1))
  refine g_ac X0 K (q := 7) (same := false) d9_2 rfl rfl (decide_eq_false fun q => ne1 (Value.ref.inj q)) (by decide) (by decide) ?_
  refine g_aloadN X0 K (q := 8) d9_7 rfl rfl rfl ?_
  refine g_instY X0 K (q := 11) (w64 H) e0 (Ins.self E_1) d9_8 rfl ?_
  intro T1 X1 e1
  refine g_ifN X1 K (q := 14) d9_11 (by decide) rfl ?_
  refine g_aloadN X1 K (q := 15) d9_14 rfl rfl rfl ?_
  refine g_cast X1 K (q := 18) (w64 H) e1 (Ins.self E_1) d9_15 rfl ?_
  intro T2 X2 e2
  refine g_astoreN X2 K (q := 19) (L' := #[.val (.ref (ad12 Z a0)), .val (.ref a1), .val (.ref a1)]) d9_18 rfl rfl rfl ?_
  refine g_gets X2 K (q := 22) (w65 H) e2 ((ivs0 H).ext Ol0.2) d9_19 rfl ?_
  intro T3 X3 e3
  refine g_ifN X3 K (q := 25) d9_22 (feq (ivn0 H)).1 rfl ?_
  refine g_aloadN X3 K (q := 26) d9_25 rfl rfl rfl ?_
  refine g_getf X3 K (q := 29) (w28 H) Via.refl e3 ((f12_coder H).ext Ol0.2) d9_26 rfl ?_
  intro T4 X4 e4
  refine g_aloadN X4 K (q := 30) d9_29 rfl rfl rfl ?_
  refine g_getf X4 K (q := 33) (w28 H) Via.refl e4 F_1 d9_30 rfl ?_
  intro T5 X5 e5
  refine g_icN X5 K (q := 36) d9_33 (by decide) rfl ?_
  refine g_aloadN X5 K (q := 37) d9_36 rfl rfl rfl ?_
  refine g_getf X5 K (q := 40) (w27 H) Via.refl e5 ((f12_value H).ext Ol0.2) d9_37 rfl ?_
  intro T6 X6 e6
  refine g_aloadN X6 K (q := 41) d9_40 rfl rfl rfl ?_
  refine g_getf X6 K (q := 44) (w27 H) Via.refl e6 F_2 d9_41 rfl ?_
  intro T7 X7 e7
  refine g_static X7 K (q := 47) (W := 0) (w66 H) (w67 H) (w68 H) (w69 H) (by decide) (rm10_74 l H a2 p1 p2 k1 h0 Ol0 A_1 hc_1) e7 rfl (argsL := [(.ref (ad18 Z a0)), (.ref a2)]) (rest := []) (lenOf pd_6 rfl) rfl rfl (Nat.le_of_eq rfl) d9_44 (by decide) (by decide) (by decide) (by decide) rfl ?_
  rintro T8 v8 L8 X8 ⟨rfl, N8q, e8⟩
  have N8 := Fr.app (Fr.nil _) N8q
  show Go p e below _ T8 (mkF m 47 #[.val (.ref (ad12 Z a0)), .val (.ref a1), .val (.ref a1)] [(.int (0 : Int32))])
  refine g_ifY X8 K (q := 54) d9_47 (by decide) (by decide) (by decide) ?_
  refine g_iconst X8 K (q := 55) (v := (0 : Int32)) d9_54 (by decide) rfl ?_
  refine g_nret X8 K (by simp) (z' := (0 : Int32)) (by decide) d9_55 (by decide) (by decide) ?_
  exact ⟨rfl, N8, e8⟩
set_option maxRecDepth 65536 in
set_option maxHeartbeats 40000000 in
theorem rm7_76 (l : Launch) {Z : State} {a0 : Array Value} (H : Hyp Z a0) (a1 : Addr) (a2 : Addr) (p1 : Int32) (p2 : Int32) (k1 : ClassId) (h0 : Heap) (Ol : Old Z Z.heap.size h0) (F_1 : Fld Z h0 a1 "java/lang/String" "coder" "B" (.int (0 : Int32))) (F_2 : Fld Z h0 a1 "java/lang/String" "value" "[B" (.ref a2)) (A_1 : Arv Z h0 a2 k1 .byte (2 : Int32) [(.int p1), (.int p2)] (.int (0 : Int32))) (ge_1 : Z.heap.size ≤ a1) (E_1 : Exa Z h0 a1 "java/lang/String") (hc_1 : ¬ ((33 : Int32) = p1)) (hc_2 : ¬ ((60 : Int32) = p1)) (hc_3 : ¬ ((62 : Int32) = p1)) :
    Mt l Z (⟨"com/example/annotable/annotable/PathQuery$Comparison", "of", "(Ljava/lang/String;)Lcom/example/annotable/annotable/PathQuery$Comparison;"⟩ : MethodName) prog_16_method_6_code 5 (some (.object "com/example/annotable/annotable/PathQuery$Comparison")) [] ({ frames := 2, cells := 1, slots := 6, locals := 28 } : Room) #[(.ref a1)] h0 (fun v h L => (v = some .null ∧ Fr Z.heap.size L ∧ Keep h0 h [])) := by
  refine g_body (plainFor_of_name pn_com_example_annotable_annotable_PathQuery_Comparison) ?_
  intro p e s m below meth c T0 K X0 e0
  refine g_entry (ef_7 m a1) ?_
  have nw_a1 : a1 ∉ [] := nin0
  have nw_a2 : a2 ∉ [] := nin0
  have Ol0 := Ol
  refine g_static X0 K (q := 3) (W := 0) (w36 H) (w37 H) (w34 H) (w38 H) (by decide) (rm8_6 l H h0 Ol0) e0 rfl (argsL := []) (rest := []) (lenOf pd_5 rfl) rfl rfl (Nat.le_of_eq rfl) d7_0 (by decide) (by decide) (by decide) (by decide) rfl ?_
  rintro T1 v1 L1 X1 ⟨bx1, rfl, N1q, Kc1, lz1_0, g1, g2⟩
  have szbx1 := Nat.le_trans (Keep.refl h0 []).1 lz1_0
  have gebx1 := Nat.le_trans Ol0.2.1 lz1_0
  have so1 := Sd.one bx1
  obtain ⟨N1, Ol1, Kp1⟩ := ivK (Fr.nil _) Ol0 (Keep.refl h0 []) N1q Kc1 all0 all0
  show Go p e below _ T1 (mkF m 3 #[.val (.ref a1), .unset, .unset, .unset, .unset] [(.ref bx1)])
  refine g_astoreN X1 K (q := 4) (L' := #[.val (.ref a1), .val (.ref bx1), .unset, .unset, .unset]) d7_3 rfl rfl rfl ?_
  refine g_aloadN X1 K (q := 5) d7_4 rfl rfl rfl ?_
  refine g_len X1 K (q := 6) rfl g1 d7_5 rfl ?_
  refine g_istoreN X1 K (q := 7) (L' := #[.val (.ref a1), .val (.ref bx1), .val (.int (6 : Int32)), .unset, .unset]) d7_6 rfl rfl ?_
  refine g_iconst X1 K (q := 8) (v := (0 : Int32)) d7_7 (by decide) rfl ?_
  refine g_istoreN X1 K (q := 9) (L' := #[.val (.ref a1), .val (.ref bx1), .val (.int (6 : Int32)), .val (.int (0 : Int32)), .unset]) d7_8 rfl rfl ?_
  refine g_iloadN X1 K (q := 10) d7_9 rfl rfl ?_
  refine g_iloadN X1 K (q := 11) d7_10 rfl rfl ?_
  refine g_icN X1 K (q := 14) d7_11 (by decide) rfl ?_
  refine g_aloadN X1 K (q := 15) d7_14 rfl rfl rfl ?_
  refine g_iloadN X1 K (q := 16) d7_15 rfl rfl ?_
  refine g_aald X1 K (q := 17) (v := (.ref (ad1 Z a0))) rfl g1 rfl (by decide) rfl d7_16 rfl ?_
  refine g_astore X1 K (q := 19) (L' := #[.val (.ref a1), .val (.ref bx1), .val (.int (6 : Int32)), .val (.int (0 : Int32)), .val (.ref (ad1 Z a0))]) d7_17 rfl rfl rfl ?_
  refine g_aload X1 K (q := 21) d7_19 rfl rfl rfl ?_
  refine g_getf X1 K (q := 24) (w57 H) Via.refl rfl ((f1_symbol H).ext Ol1.2) d7_21 rfl ?_
  intro T2 X2 e2
  refine g_aloadN X2 K (q := 25) d7_24 rfl rfl rfl ?_
  have f1 := E_1.keep Kp1
  have f2 := F_1.keep Kp1 nw_a1
  have f3 := F_2.keep Kp1 nw_a1
  have f4 := A_1.keep Kp1 nw_a2
  refine g_virtual X2 K (q := 28) (W := 0) (a := (ad7 Z a0)) (w59 H) (w60 H) (nf_self K (w62 H)) (w62 H) (w61 H) (w9 H) (w63 H) (by decide) (rm9_56 l H a1 a2 p1 p2 k1 T1.heap Ol1 ge_1 f1 f2 f3 f4) e2 ((x7 H).ext Ol1.2) rfl (argsL := [(.ref a1)]) (rest := []) (lenOf pd_7 rfl) rfl rfl (Nat.le_of_eq rfl) d7_25 (by decide) (by decide) (by decide) (by decide) rfl ?_
  rintro T3 v3 L3 X3 ⟨rfl, N3q, e3⟩
  have N3 := Fr.app N1 N3q
  show Go p e below _ T3 (mkF m 28 #[.val (.ref a1), .val (.ref bx1), .val (.int (6 : Int32)), .val (.int (0 : Int32)), .val (.ref (ad1 Z a0))] [(.int (0 : Int32))])
  refine g_ifY X3 K (q := 34) d7_28 (by decide) (by decide) (by decide) ?_
  refine g_iinc X3 K (q := 37) (z := (1 : Int32)) (L' := #[.val (.ref a1), .val (.ref bx1), .val (.int (6 : Int32)), .val (.int (1 : Int32)), .val (.ref (ad1 Z a0))]) d7_34 rfl (by decide) rfl rfl ?_
  refine g_goto X3 K (q := 9) d7_37 (by decide) (by decide) ?_
  refine g_iloadN X3 K (q := 10) d7_9 rfl rfl ?_
  refine g_iloadN X3 K (q := 11) d7_10 rfl rfl ?_
  refine g_icN X3 K (q := 14) d7_11 (by decide) rfl ?_
  refine g_aloadN X3 K (q := 15) d7_14 rfl rfl rfl ?_
  refine g_iloadN X3 K (q := 16) d7_15 rfl rfl ?_
  refine g_aald X3 K (q := 17) (v := (.ref (ad2 Z a0))) e3 g1 rfl (by decide) rfl d7_16 rfl ?_
  refine g_astore X3 K (q := 19) (L' := #[.val (.ref a1), .val (.ref bx1), .val (.int (6 : Int32)), .val (.int (1 : Int32)), .val (.ref (ad2 Z a0))]) d7_17 rfl rfl rfl ?_
  refine g_aload X3 K (q := 21) d7_19 rfl rfl rfl ?_
  refine g_getf X3 K (q := 24) (w57 H) Via.refl e3 ((f2_symbol H).ext Ol1.2) d7_21 rfl ?_
  intro T4 X4 e4
  refine g_aloadN X4 K (q := 25) d7_24 rfl rfl rfl ?_
  refine g_virtual X4 K (q := 28) (W := 0) (a := (ad8 Z a0)) (w59 H) (w60 H) (nf_self K (w62 H)) (w62 H) (w61 H) (w9 H) (w63 H) (by decide) (rm9_61 l H a1 a2 p1 p2 k1 T1.heap Ol1 ge_1 f1 f2 f3 f4 hc_1) e4 ((x8 H).ext Ol1.2) rfl (argsL := [(.ref a1)]) (rest := []) (lenOf pd_7 rfl) rfl rfl (Nat.le_of_eq rfl) d7_25 (by decide) (by decide) (by decide) (by decide) rfl ?_
  rintro T5 v5 L5 X5 ⟨rfl, N5q, e5⟩
  have N5 := Fr.app N3 N5q
  show Go p e below _ T5 (mkF m 28 #[.val (.ref a1), .val (.ref bx1), .val (.int (6 : Int32)), .val (.int (1 : Int32)), .val (.ref (ad2 Z a0))] [(.int (0 : Int32))])
  refine g_ifY X5 K (q := 34) d7_28 (by decide) (by decide) (by decide) ?_
  refine g_iinc X5 K (q := 37) (z := (2 : Int32)) (L' := #[.val (.ref a1), .val (.ref bx1), .val (.int (6 : Int32)), .val (.int (2 : Int32)), .val (.ref (ad2 Z a0))]) d7_34 rfl (by decide) rfl rfl ?_
  refine g_goto X5 K (q := 9) d7_37 (by decide) (by decide) ?_
  refine g_iloadN X5 K (q := 10) d7_9 rfl rfl ?_
  refine g_iloadN X5 K (q := 11) d7_10 rfl rfl ?_
  refine g_icN X5 K (q := 14) d7_11 (by decide) rfl ?_
  refine g_aloadN X5 K (q := 15) d7_14 rfl rfl rfl ?_
  refine g_iloadN X5 K (q := 16) d7_15 rfl rfl ?_
  refine g_aald X5 K (q := 17) (v := (.ref (ad3 Z a0))) e5 g1 rfl (by decide) rfl d7_16 rfl ?_
  refine g_astore X5 K (q := 19) (L' := #[.val (.ref a1), .val (.ref bx1), .val (.int (6 : Int32)), .val (.int (2 : Int32)), .val (.ref (ad3 Z a0))]) d7_17 rfl rfl rfl ?_
  refine g_aload X5 K (q := 21) d7_19 rfl rfl rfl ?_
  refine g_getf X5 K (q := 24) (w57 H) Via.refl e5 ((f3_symbol H).ext Ol1.2) d7_21 rfl ?_
  intro T6 X6 e6
  refine g_aloadN X6 K (q := 25) d7_24 rfl rfl rfl ?_
  refine g_virtual X6 K (q := 28) (W := 0) (a := (ad9 Z a0)) (w59 H) (w60 H) (nf_self K (w62 H)) (w62 H) (w61 H) (w9 H) (w63 H) (by decide) (rm9_63 l H a1 a2 p1 p2 k1 T1.heap Ol1 ge_1 f1 f2 f3 f4) e6 ((x9 H).ext Ol1.2) rfl (argsL := [(.ref a1)]) (rest := []) (lenOf pd_7 rfl) rfl rfl (Nat.le_of_eq rfl) d7_25 (by decide) (by decide) (by decide) (by decide) rfl ?_
  rintro T7 v7 L7 X7 ⟨rfl, N7q, e7⟩
  have N7 := Fr.app N5 N7q
  show Go p e below _ T7 (mkF m 28 #[.val (.ref a1), .val (.ref bx1), .val (.int (6 : Int32)), .val (.int (2 : Int32)), .val (.ref (ad3 Z a0))] [(.int (0 : Int32))])
  refine g_ifY X7 K (q := 34) d7_28 (by decide) (by decide) (by decide) ?_
  refine g_iinc X7 K (q := 37) (z := (3 : Int32)) (L' := #[.val (.ref a1), .val (.ref bx1), .val (.int (6 : Int32)), .val (.int (3 : Int32)), .val (.ref (ad3 Z a0))]) d7_34 rfl (by decide) rfl rfl ?_
  refine g_goto X7 K (q := 9) d7_37 (by decide) (by decide) ?_
  refine g_iloadN X7 K (q := 10) d7_9 rfl rfl ?_
  refine g_iloadN X7 K (q := 11) d7_10 rfl rfl ?_
  refine g_icN X7 K (q := 14) d7_11 (by decide) rfl ?_
  refine g_aloadN X7 K (q := 15) d7_14 rfl rfl rfl ?_
  refine g_iloadN X7 K (q := 16) d7_15 rfl rfl ?_
  refine g_aald X7 K (q := 17) (v := (.ref (ad4 Z a0))) e7 g1 rfl (by decide) rfl d7_16 rfl ?_
  refine g_astore X7 K (q := 19) (L' := #[.val (.ref a1), .val (.ref bx1), .val (.int (6 : Int32)), .val (.int (3 : Int32)), .val (.ref (ad4 Z a0))]) d7_17 rfl rfl rfl ?_
  refine g_aload X7 K (q := 21) d7_19 rfl rfl rfl ?_
  refine g_getf X7 K (q := 24) (w57 H) Via.refl e7 ((f4_symbol H).ext Ol1.2) d7_21 rfl ?_
  intro T8 X8 e8
  refine g_aloadN X8 K (q := 25) d7_24 rfl rfl rfl ?_
  refine g_virtual X8 K (q := 28) (W := 0) (a := (ad10 Z a0)) (w59 H) (w60 H) (nf_self K (w62 H)) (w62 H) (w61 H) (w9 H) (w63 H) (by decide) (rm9_68 l H a1 a2 p1 p2 k1 T1.heap Ol1 ge_1 f1 f2 f3 f4 hc_2) e8 ((x10 H).ext Ol1.2) rfl (argsL := [(.ref a1)]) (rest := []) (lenOf pd_7 rfl) rfl rfl (Nat.le_of_eq rfl) d7_25 (by decide) (by decide) (by decide) (by decide) rfl ?_
  rintro T9 v9 L9 X9 ⟨rfl, N9q, e9⟩
  have N9 := Fr.app N7 N9q
  show Go p e below _ T9 (mkF m 28 #[.val (.ref a1), .val (.ref bx1), .val (.int (6 : Int32)), .val (.int (3 : Int32)), .val (.ref (ad4 Z a0))] [(.int (0 : Int32))])
  refine g_ifY X9 K (q := 34) d7_28 (by decide) (by decide) (by decide) ?_
  refine g_iinc X9 K (q := 37) (z := (4 : Int32)) (L' := #[.val (.ref a1), .val (.ref bx1), .val (.int (6 : Int32)), .val (.int (4 : Int32)), .val (.ref (ad4 Z a0))]) d7_34 rfl (by decide) rfl rfl ?_
  refine g_goto X9 K (q := 9) d7_37 (by decide) (by decide) ?_
  refine g_iloadN X9 K (q := 10) d7_9 rfl rfl ?_
  refine g_iloadN X9 K (q := 11) d7_10 rfl rfl ?_
  refine g_icN X9 K (q := 14) d7_11 (by decide) rfl ?_
  refine g_aloadN X9 K (q := 15) d7_14 rfl rfl rfl ?_
  refine g_iloadN X9 K (q := 16) d7_15 rfl rfl ?_
  refine g_aald X9 K (q := 17) (v := (.ref (ad5 Z a0))) e9 g1 rfl (by decide) rfl d7_16 rfl ?_
  refine g_astore X9 K (q := 19) (L' := #[.val (.ref a1), .val (.ref bx1), .val (.int (6 : Int32)), .val (.int (4 : Int32)), .val (.ref (ad5 Z a0))]) d7_17 rfl rfl rfl ?_
  refine g_aload X9 K (q := 21) d7_19 rfl rfl rfl ?_
  refine g_getf X9 K (q := 24) (w57 H) Via.refl e9 ((f5_symbol H).ext Ol1.2) d7_21 rfl ?_
  intro T10 X10 e10
  refine g_aloadN X10 K (q := 25) d7_24 rfl rfl rfl ?_
  refine g_virtual X10 K (q := 28) (W := 0) (a := (ad11 Z a0)) (w59 H) (w60 H) (nf_self K (w62 H)) (w62 H) (w61 H) (w9 H) (w63 H) (by decide) (rm9_70 l H a1 a2 p1 p2 k1 T1.heap Ol1 ge_1 f1 f2 f3 f4) e10 ((x11 H).ext Ol1.2) rfl (argsL := [(.ref a1)]) (rest := []) (lenOf pd_7 rfl) rfl rfl (Nat.le_of_eq rfl) d7_25 (by decide) (by decide) (by decide) (by decide) rfl ?_
  rintro T11 v11 L11 X11 ⟨rfl, N11q, e11⟩
  have N11 := Fr.app N9 N11q
  show Go p e below _ T11 (mkF m 28 #[.val (.ref a1), .val (.ref bx1), .val (.int (6 : Int32)), .val (.int (4 : Int32)), .val (.ref (ad5 Z a0))] [(.int (0 : Int32))])
  refine g_ifY X11 K (q := 34) d7_28 (by decide) (by decide) (by decide) ?_
  refine g_iinc X11 K (q := 37) (z := (5 : Int32)) (L' := #[.val (.ref a1), .val (.ref bx1), .val (.int (6 : Int32)), .val (.int (5 : Int32)), .val (.ref (ad5 Z a0))]) d7_34 rfl (by decide) rfl rfl ?_
  refine g_goto X11 K (q := 9) d7_37 (by decide) (by decide) ?_
  refine g_iloadN X11 K (q := 10) d7_9 rfl rfl ?_
  refine g_iloadN X11 K (q := 11) d7_10 rfl rfl ?_
  refine g_icN X11 K (q := 14) d7_11 (by decide) rfl ?_
  refine g_aloadN X11 K (q := 15) d7_14 rfl rfl rfl ?_
  refine g_iloadN X11 K (q := 16) d7_15 rfl rfl ?_
  refine g_aald X11 K (q := 17) (v := (.ref (ad6 Z a0))) e11 g1 rfl (by decide) rfl d7_16 rfl ?_
  refine g_astore X11 K (q := 19) (L' := #[.val (.ref a1), .val (.ref bx1), .val (.int (6 : Int32)), .val (.int (5 : Int32)), .val (.ref (ad6 Z a0))]) d7_17 rfl rfl rfl ?_
  refine g_aload X11 K (q := 21) d7_19 rfl rfl rfl ?_
  refine g_getf X11 K (q := 24) (w57 H) Via.refl e11 ((f6_symbol H).ext Ol1.2) d7_21 rfl ?_
  intro T12 X12 e12
  refine g_aloadN X12 K (q := 25) d7_24 rfl rfl rfl ?_
  refine g_virtual X12 K (q := 28) (W := 0) (a := (ad12 Z a0)) (w59 H) (w60 H) (nf_self K (w62 H)) (w62 H) (w61 H) (w9 H) (w63 H) (by decide) (rm9_75 l H a1 a2 p1 p2 k1 T1.heap Ol1 ge_1 f1 f2 f3 f4 hc_3) e12 ((x12 H).ext Ol1.2) rfl (argsL := [(.ref a1)]) (rest := []) (lenOf pd_7 rfl) rfl rfl (Nat.le_of_eq rfl) d7_25 (by decide) (by decide) (by decide) (by decide) rfl ?_
  rintro T13 v13 L13 X13 ⟨rfl, N13q, e13⟩
  have N13 := Fr.app N11 N13q
  show Go p e below _ T13 (mkF m 28 #[.val (.ref a1), .val (.ref bx1), .val (.int (6 : Int32)), .val (.int (5 : Int32)), .val (.ref (ad6 Z a0))] [(.int (0 : Int32))])
  refine g_ifY X13 K (q := 34) d7_28 (by decide) (by decide) (by decide) ?_
  refine g_iinc X13 K (q := 37) (z := (6 : Int32)) (L' := #[.val (.ref a1), .val (.ref bx1), .val (.int (6 : Int32)), .val (.int (6 : Int32)), .val (.ref (ad6 Z a0))]) d7_34 rfl (by decide) rfl rfl ?_
  refine g_goto X13 K (q := 9) d7_37 (by decide) (by decide) ?_
  refine g_iloadN X13 K (q := 10) d7_9 rfl rfl ?_
  refine g_iloadN X13 K (q := 11) d7_10 rfl rfl ?_
  refine g_icY X13 K (q := 40) d7_11 (by decide) (by decide) (by decide) ?_
  refine g_null X13 K (q := 41) d7_40 rfl ?_
  refine g_aret X13 K rfl rfl rfl d7_41 (by decide) (by decide) ?_
  have Kp : Keep h0 T13.heap [] := by rw [e13]; exact Kp1
  exact ⟨rfl, N13, Kp⟩
set_option maxRecDepth 65536 in
set_option maxHeartbeats 40000000 in
theorem rm10_77 (l : Launch) {Z : State} {a0 : Array Value} (H : Hyp Z a0) (a1 : Addr) (p1 : Int32) (p2 : Int32) (k1 : ClassId) (h0 : Heap) (Ol : Old Z Z.heap.size h0) (A_1 : Arv Z h0 a1 k1 .byte (2 : Int32) [(.int p1), (.int p2)] (.int (0 : Int32))) (hc_1 : ¬ ((61 : Int32) = p2)) :
    Mt l Z (⟨"java/lang/StringLatin1", "equals", "([B[B)Z"⟩ : MethodName) jdk_43_method_13_code 3 (some .boolean) [] ({ frames := 0, cells := 0, slots := 0, locals := 0 } : Room) #[(.ref (ad14 Z a0)), (.ref a1)] h0 (fun v h L => ((33 : Int32) = p1 ∧ v = some (.int (0 : Int32)) ∧ Fr Z.heap.size L ∧ h = h0) ∨ (¬ ((33 : Int32) = p1) ∧ v = some (.int (0 : Int32)) ∧ Fr Z.heap.size L ∧ h = h0)) := by
  refine g_body (plainFor_of_name pn_java_lang_StringLatin1) ?_
  intro p e s m below meth c T0 K X0 e0
  refine g_entry (ef_6 m (ad14 Z a0) a1) ?_
  have Ol0 := Ol
  refine g_aloadN X0 K (q := 1) d10_0 rfl rfl rfl ?_
  refine g_len X0 K (q := 2) e0 ((v14 H).ext Ol0.2) d10_1 rfl ?_
  refine g_aloadN X0 K (q := 3) d10_2 rfl rfl rfl ?_
  refine g_len X0 K (q := 4) e0 A_1 d10_3 rfl ?_
  refine g_icN X0 K (q := 7) d10_4 (by decide) rfl ?_
  refine g_iconst X0 K (q := 8) (v := (0 : Int32)) d10_7 (by decide) rfl ?_
  refine g_istoreN X0 K (q := 9) (L' := #[.val (.ref (ad14 Z a0)), .val (.ref a1), .val (.int (0 : Int32))]) d10_8 rfl rfl ?_
  refine g_iloadN X0 K (q := 10) d10_9 rfl rfl ?_
  refine g_aloadN X0 K (q := 11) d10_10 rfl rfl rfl ?_
  refine g_len X0 K (q := 12) e0 ((v14 H).ext Ol0.2) d10_11 rfl ?_
  refine g_icN X0 K (q := 15) d10_12 (by decide) rfl ?_
  refine g_aloadN X0 K (q := 16) d10_15 rfl rfl rfl ?_
  refine g_iloadN X0 K (q := 17) d10_16 rfl rfl ?_
  refine g_bald X0 K (q := 18) (v := (.int (33 : Int32))) e0 ((v14 H).ext Ol0.2) (by decide) rfl d10_17 rfl ?_
  refine g_aloadN X0 K (q := 19) d10_18 rfl rfl rfl ?_
  refine g_iloadN X0 K (q := 20) d10_19 rfl rfl ?_
  refine g_bald X0 K (q := 21) (v := (.int p1)) e0 A_1 (by decide) rfl d10_20 rfl ?_
  by_cases hc1 : (33 : Int32) = p1
  · refine g_icY X0 K (q := 26) d10_21 (teq hc1).1 (by decide) (by decide) ?_
    refine g_iinc X0 K (q := 29) (z := (1 : Int32)) (L' := #[.val (.ref (ad14 Z a0)), .val (.ref a1), .val (.int (1 : Int32))]) d10_26 rfl (by decide) rfl rfl ?_
    refine g_goto X0 K (q := 9) d10_29 (by decide) (by decide) ?_
    refine g_iloadN X0 K (q := 10) d10_9 rfl rfl ?_
    refine g_aloadN X0 K (q := 11) d10_10 rfl rfl rfl ?_
    refine g_len X0 K (q := 12) e0 ((v14 H).ext Ol0.2) d10_11 rfl ?_
    refine g_icN X0 K (q := 15) d10_12 (by decide) rfl ?_
    refine g_aloadN X0 K (q := 16) d10_15 rfl rfl rfl ?_
    refine g_iloadN X0 K (q := 17) d10_16 rfl rfl ?_
    refine g_bald X0 K (q := 18) (v := (.int (61 : Int32))) e0 ((v14 H).ext Ol0.2) (by decide) rfl d10_17 rfl ?_
    refine g_aloadN X0 K (q := 19) d10_18 rfl rfl rfl ?_
    refine g_iloadN X0 K (q := 20) d10_19 rfl rfl ?_
    refine g_bald X0 K (q := 21) (v := (.int p2)) e0 A_1 (by decide) rfl d10_20 rfl ?_
    refine g_icN X0 K (q := 24) d10_21 (feq hc_1).1 rfl ?_
    refine g_iconst X0 K (q := 25) (v := (0 : Int32)) d10_24 (by decide) rfl ?_
    refine g_nret X0 K (by simp) (z' := (0 : Int32)) (by decide) d10_25 (by decide) (by decide) ?_
    exact Or.inl (⟨hc1, rfl, (Fr.nil _), e0⟩)
  · refine g_icN X0 K (q := 24) d10_21 (feq hc1).1 rfl ?_
    refine g_iconst X0 K (q := 25) (v := (0 : Int32)) d10_24 (by decide) rfl ?_
    refine g_nret X0 K (by simp) (z' := (0 : Int32)) (by decide) d10_25 (by decide) (by decide) ?_
    exact Or.inr (⟨hc1, rfl, (Fr.nil _), e0⟩)
set_option maxRecDepth 65536 in
set_option maxHeartbeats 40000000 in
theorem rm9_78 (l : Launch) {Z : State} {a0 : Array Value} (H : Hyp Z a0) (a1 : Addr) (a2 : Addr) (p1 : Int32) (p2 : Int32) (k1 : ClassId) (h0 : Heap) (Ol : Old Z Z.heap.size h0) (ge_1 : Z.heap.size ≤ a1) (E_1 : Exa Z h0 a1 "java/lang/String") (F_1 : Fld Z h0 a1 "java/lang/String" "coder" "B" (.int (0 : Int32))) (F_2 : Fld Z h0 a1 "java/lang/String" "value" "[B" (.ref a2)) (A_1 : Arv Z h0 a2 k1 .byte (2 : Int32) [(.int p1), (.int p2)] (.int (0 : Int32))) (hc_1 : ¬ ((61 : Int32) = p2)) :
    Mt l Z (⟨"java/lang/String", "equals", "(Ljava/lang/Object;)Z"⟩ : MethodName) jdk_42_method_66_code 3 (some .boolean) [] ({ frames := 1, cells := 0, slots := 0, locals := 14 } : Room) #[(.ref (ad8 Z a0)), (.ref a1)] h0 (fun v h L => ((33 : Int32) = p1 ∧ v = some (.int (0 : Int32)) ∧ Fr Z.heap.size L ∧ h = h0) ∨ (¬ ((33 : Int32) = p1) ∧ v = some (.int (0 : Int32)) ∧ Fr Z.heap.size L ∧ h = h0)) := by
  refine g_body (plainFor_of_name pn_java_lang_String) ?_
  intro p e s m below meth c T0 K X0 e0
  refine g_entry (ef_6 m (ad8 Z a0) a1) ?_
  have Ol0 := Ol
  refine g_aloadN X0 K (q := 1) d9_0 rfl rfl rfl ?_
  refine g_aloadN X0 K (q := 2) d9_1 rfl rfl rfl ?_
  have ne1 : (ad8 Z a0) ≠ a1 := (Nat.ne_of_lt (Nat.lt_of_lt_of_le (f8_value H).lt ge_1))
  refine g_ac X0 K (q := 7) (same := false) d9_2 rfl rfl (decide_eq_false fun q => ne1 (Value.ref.inj q)) (by decide) (by decide) ?_
  refine g_aloadN X0 K (q := 8) d9_7 rfl rfl rfl ?_
  refine g_instY X0 K (q := 11) (w64 H) e0 (Ins.self E_1) d9_8 rfl ?_
  intro T1 X1 e1
  refine g_ifN X1 K (q := 14) d9_11 (by decide) rfl ?_
  refine g_aloadN X1 K (q := 15) d9_14 rfl rfl rfl ?_
  refine g_cast X1 K (q := 18) (w64 H) e1 (Ins.self E_1) d9_15 rfl ?_
  intro T2 X2 e2
  refine g_astoreN X2 K (q := 19) (L' := #[.val (.ref (ad8 Z a0)), .val (.ref a1), .val (.ref a1)]) d9_18 rfl rfl rfl ?_
  refine g_gets X2 K (q := 22) (w65 H) e2 ((ivs0 H).ext Ol0.2) d9_19 rfl ?_
  intro T3 X3 e3
  refine g_ifN X3 K (q := 25) d9_22 (feq (ivn0 H)).1 rfl ?_
  refine g_aloadN X3 K (q := 26) d9_25 rfl rfl rfl ?_
  refine g_getf X3 K (q := 29) (w28 H) Via.refl e3 ((f8_coder H).ext Ol0.2) d9_26 rfl ?_
  intro T4 X4 e4
  refine g_aloadN X4 K (q := 30) d9_29 rfl rfl rfl ?_
  refine g_getf X4 K (q := 33) (w28 H) Via.refl e4 F_1 d9_30 rfl ?_
  intro T5 X5 e5
  refine g_icN X5 K (q := 36) d9_33 (by decide) rfl ?_
  refine g_aloadN X5 K (q := 37) d9_36 rfl rfl rfl ?_
  refine g_getf X5 K (q := 40) (w27 H) Via.refl e5 ((f8_value H).ext Ol0.2) d9_37 rfl ?_
  intro T6 X6 e6
  refine g_aloadN X6 K (q := 41) d9_40 rfl rfl rfl ?_
  refine g_getf X6 K (q := 44) (w27 H) Via.refl e6 F_2 d9_41 rfl ?_
  intro T7 X7 e7
  refine g_static X7 K (q := 47) (W := 0) (w66 H) (w67 H) (w68 H) (w69 H) (by decide) (rm10_77 l H a2 p1 p2 k1 h0 Ol0 A_1 hc_1) e7 rfl (argsL := [(.ref (ad14 Z a0)), (.ref a2)]) (rest := []) (lenOf pd_6 rfl) rfl rfl (Nat.le_of_eq rfl) d9_44 (by decide) (by decide) (by decide) (by decide) rfl ?_
  rintro T8 v8 L8 X8 (⟨hc1, rfl, N8q, e8⟩ | ⟨hc2, rfl, N8q, e8⟩)
  · have N8 := Fr.app (Fr.nil _) N8q
    show Go p e below _ T8 (mkF m 47 #[.val (.ref (ad8 Z a0)), .val (.ref a1), .val (.ref a1)] [(.int (0 : Int32))])
    refine g_ifY X8 K (q := 54) d9_47 (by decide) (by decide) (by decide) ?_
    refine g_iconst X8 K (q := 55) (v := (0 : Int32)) d9_54 (by decide) rfl ?_
    refine g_nret X8 K (by simp) (z' := (0 : Int32)) (by decide) d9_55 (by decide) (by decide) ?_
    exact Or.inl (⟨hc1, rfl, N8, e8⟩)
  · have N8 := Fr.app (Fr.nil _) N8q
    show Go p e below _ T8 (mkF m 47 #[.val (.ref (ad8 Z a0)), .val (.ref a1), .val (.ref a1)] [(.int (0 : Int32))])
    refine g_ifY X8 K (q := 54) d9_47 (by decide) (by decide) (by decide) ?_
    refine g_iconst X8 K (q := 55) (v := (0 : Int32)) d9_54 (by decide) rfl ?_
    refine g_nret X8 K (by simp) (z' := (0 : Int32)) (by decide) d9_55 (by decide) (by decide) ?_
    exact Or.inr (⟨hc2, rfl, N8, e8⟩)
set_option maxRecDepth 65536 in
set_option maxHeartbeats 40000000 in
theorem rm10_79 (l : Launch) {Z : State} {a0 : Array Value} (H : Hyp Z a0) (a1 : Addr) (p1 : Int32) (p2 : Int32) (k1 : ClassId) (h0 : Heap) (Ol : Old Z Z.heap.size h0) (A_1 : Arv Z h0 a1 k1 .byte (2 : Int32) [(.int p1), (.int p2)] (.int (0 : Int32))) (hc_1 : ¬ ((61 : Int32) = p2)) :
    Mt l Z (⟨"java/lang/StringLatin1", "equals", "([B[B)Z"⟩ : MethodName) jdk_43_method_13_code 3 (some .boolean) [] ({ frames := 0, cells := 0, slots := 0, locals := 0 } : Room) #[(.ref (ad16 Z a0)), (.ref a1)] h0 (fun v h L => ((60 : Int32) = p1 ∧ v = some (.int (0 : Int32)) ∧ Fr Z.heap.size L ∧ h = h0) ∨ (¬ ((60 : Int32) = p1) ∧ v = some (.int (0 : Int32)) ∧ Fr Z.heap.size L ∧ h = h0)) := by
  refine g_body (plainFor_of_name pn_java_lang_StringLatin1) ?_
  intro p e s m below meth c T0 K X0 e0
  refine g_entry (ef_6 m (ad16 Z a0) a1) ?_
  have Ol0 := Ol
  refine g_aloadN X0 K (q := 1) d10_0 rfl rfl rfl ?_
  refine g_len X0 K (q := 2) e0 ((v16 H).ext Ol0.2) d10_1 rfl ?_
  refine g_aloadN X0 K (q := 3) d10_2 rfl rfl rfl ?_
  refine g_len X0 K (q := 4) e0 A_1 d10_3 rfl ?_
  refine g_icN X0 K (q := 7) d10_4 (by decide) rfl ?_
  refine g_iconst X0 K (q := 8) (v := (0 : Int32)) d10_7 (by decide) rfl ?_
  refine g_istoreN X0 K (q := 9) (L' := #[.val (.ref (ad16 Z a0)), .val (.ref a1), .val (.int (0 : Int32))]) d10_8 rfl rfl ?_
  refine g_iloadN X0 K (q := 10) d10_9 rfl rfl ?_
  refine g_aloadN X0 K (q := 11) d10_10 rfl rfl rfl ?_
  refine g_len X0 K (q := 12) e0 ((v16 H).ext Ol0.2) d10_11 rfl ?_
  refine g_icN X0 K (q := 15) d10_12 (by decide) rfl ?_
  refine g_aloadN X0 K (q := 16) d10_15 rfl rfl rfl ?_
  refine g_iloadN X0 K (q := 17) d10_16 rfl rfl ?_
  refine g_bald X0 K (q := 18) (v := (.int (60 : Int32))) e0 ((v16 H).ext Ol0.2) (by decide) rfl d10_17 rfl ?_
  refine g_aloadN X0 K (q := 19) d10_18 rfl rfl rfl ?_
  refine g_iloadN X0 K (q := 20) d10_19 rfl rfl ?_
  refine g_bald X0 K (q := 21) (v := (.int p1)) e0 A_1 (by decide) rfl d10_20 rfl ?_
  by_cases hc1 : (60 : Int32) = p1
  · refine g_icY X0 K (q := 26) d10_21 (teq hc1).1 (by decide) (by decide) ?_
    refine g_iinc X0 K (q := 29) (z := (1 : Int32)) (L' := #[.val (.ref (ad16 Z a0)), .val (.ref a1), .val (.int (1 : Int32))]) d10_26 rfl (by decide) rfl rfl ?_
    refine g_goto X0 K (q := 9) d10_29 (by decide) (by decide) ?_
    refine g_iloadN X0 K (q := 10) d10_9 rfl rfl ?_
    refine g_aloadN X0 K (q := 11) d10_10 rfl rfl rfl ?_
    refine g_len X0 K (q := 12) e0 ((v16 H).ext Ol0.2) d10_11 rfl ?_
    refine g_icN X0 K (q := 15) d10_12 (by decide) rfl ?_
    refine g_aloadN X0 K (q := 16) d10_15 rfl rfl rfl ?_
    refine g_iloadN X0 K (q := 17) d10_16 rfl rfl ?_
    refine g_bald X0 K (q := 18) (v := (.int (61 : Int32))) e0 ((v16 H).ext Ol0.2) (by decide) rfl d10_17 rfl ?_
    refine g_aloadN X0 K (q := 19) d10_18 rfl rfl rfl ?_
    refine g_iloadN X0 K (q := 20) d10_19 rfl rfl ?_
    refine g_bald X0 K (q := 21) (v := (.int p2)) e0 A_1 (by decide) rfl d10_20 rfl ?_
    refine g_icN X0 K (q := 24) d10_21 (feq hc_1).1 rfl ?_
    refine g_iconst X0 K (q := 25) (v := (0 : Int32)) d10_24 (by decide) rfl ?_
    refine g_nret X0 K (by simp) (z' := (0 : Int32)) (by decide) d10_25 (by decide) (by decide) ?_
    exact Or.inl (⟨hc1, rfl, (Fr.nil _), e0⟩)
  · refine g_icN X0 K (q := 24) d10_21 (feq hc1).1 rfl ?_
    refine g_iconst X0 K (q := 25) (v := (0 : Int32)) d10_24 (by decide) rfl ?_
    refine g_nret X0 K (by simp) (z' := (0 : Int32)) (by decide) d10_25 (by decide) (by decide) ?_
    exact Or.inr (⟨hc1, rfl, (Fr.nil _), e0⟩)
set_option maxRecDepth 65536 in
set_option maxHeartbeats 40000000 in
theorem rm9_80 (l : Launch) {Z : State} {a0 : Array Value} (H : Hyp Z a0) (a1 : Addr) (a2 : Addr) (p1 : Int32) (p2 : Int32) (k1 : ClassId) (h0 : Heap) (Ol : Old Z Z.heap.size h0) (ge_1 : Z.heap.size ≤ a1) (E_1 : Exa Z h0 a1 "java/lang/String") (F_1 : Fld Z h0 a1 "java/lang/String" "coder" "B" (.int (0 : Int32))) (F_2 : Fld Z h0 a1 "java/lang/String" "value" "[B" (.ref a2)) (A_1 : Arv Z h0 a2 k1 .byte (2 : Int32) [(.int p1), (.int p2)] (.int (0 : Int32))) (hc_1 : ¬ ((61 : Int32) = p2)) :
    Mt l Z (⟨"java/lang/String", "equals", "(Ljava/lang/Object;)Z"⟩ : MethodName) jdk_42_method_66_code 3 (some .boolean) [] ({ frames := 1, cells := 0, slots := 0, locals := 14 } : Room) #[(.ref (ad10 Z a0)), (.ref a1)] h0 (fun v h L => ((60 : Int32) = p1 ∧ v = some (.int (0 : Int32)) ∧ Fr Z.heap.size L ∧ h = h0) ∨ (¬ ((60 : Int32) = p1) ∧ v = some (.int (0 : Int32)) ∧ Fr Z.heap.size L ∧ h = h0)) := by
  refine g_body (plainFor_of_name pn_java_lang_String) ?_
  intro p e s m below meth c T0 K X0 e0
  refine g_entry (ef_6 m (ad10 Z a0) a1) ?_
  have Ol0 := Ol
  refine g_aloadN X0 K (q := 1) d9_0 rfl rfl rfl ?_
  refine g_aloadN X0 K (q := 2) d9_1 rfl rfl rfl ?_
  have ne1 : (ad10 Z a0) ≠ a1 := (Nat.ne_of_lt (Nat.lt_of_lt_of_le (f10_value H).lt ge_1))
  refine g_ac X0 K (q := 7) (same := false) d9_2 rfl rfl (decide_eq_false fun q => ne1 (Value.ref.inj q)) (by decide) (by decide) ?_
  refine g_aloadN X0 K (q := 8) d9_7 rfl rfl rfl ?_
  refine g_instY X0 K (q := 11) (w64 H) e0 (Ins.self E_1) d9_8 rfl ?_
  intro T1 X1 e1
  refine g_ifN X1 K (q := 14) d9_11 (by decide) rfl ?_
  refine g_aloadN X1 K (q := 15) d9_14 rfl rfl rfl ?_
  refine g_cast X1 K (q := 18) (w64 H) e1 (Ins.self E_1) d9_15 rfl ?_
  intro T2 X2 e2
  refine g_astoreN X2 K (q := 19) (L' := #[.val (.ref (ad10 Z a0)), .val (.ref a1), .val (.ref a1)]) d9_18 rfl rfl rfl ?_
  refine g_gets X2 K (q := 22) (w65 H) e2 ((ivs0 H).ext Ol0.2) d9_19 rfl ?_
  intro T3 X3 e3
  refine g_ifN X3 K (q := 25) d9_22 (feq (ivn0 H)).1 rfl ?_
  refine g_aloadN X3 K (q := 26) d9_25 rfl rfl rfl ?_
  refine g_getf X3 K (q := 29) (w28 H) Via.refl e3 ((f10_coder H).ext Ol0.2) d9_26 rfl ?_
  intro T4 X4 e4
  refine g_aloadN X4 K (q := 30) d9_29 rfl rfl rfl ?_
  refine g_getf X4 K (q := 33) (w28 H) Via.refl e4 F_1 d9_30 rfl ?_
  intro T5 X5 e5
  refine g_icN X5 K (q := 36) d9_33 (by decide) rfl ?_
  refine g_aloadN X5 K (q := 37) d9_36 rfl rfl rfl ?_
  refine g_getf X5 K (q := 40) (w27 H) Via.refl e5 ((f10_value H).ext Ol0.2) d9_37 rfl ?_
  intro T6 X6 e6
  refine g_aloadN X6 K (q := 41) d9_40 rfl rfl rfl ?_
  refine g_getf X6 K (q := 44) (w27 H) Via.refl e6 F_2 d9_41 rfl ?_
  intro T7 X7 e7
  refine g_static X7 K (q := 47) (W := 0) (w66 H) (w67 H) (w68 H) (w69 H) (by decide) (rm10_79 l H a2 p1 p2 k1 h0 Ol0 A_1 hc_1) e7 rfl (argsL := [(.ref (ad16 Z a0)), (.ref a2)]) (rest := []) (lenOf pd_6 rfl) rfl rfl (Nat.le_of_eq rfl) d9_44 (by decide) (by decide) (by decide) (by decide) rfl ?_
  rintro T8 v8 L8 X8 (⟨hc1, rfl, N8q, e8⟩ | ⟨hc2, rfl, N8q, e8⟩)
  · have N8 := Fr.app (Fr.nil _) N8q
    show Go p e below _ T8 (mkF m 47 #[.val (.ref (ad10 Z a0)), .val (.ref a1), .val (.ref a1)] [(.int (0 : Int32))])
    refine g_ifY X8 K (q := 54) d9_47 (by decide) (by decide) (by decide) ?_
    refine g_iconst X8 K (q := 55) (v := (0 : Int32)) d9_54 (by decide) rfl ?_
    refine g_nret X8 K (by simp) (z' := (0 : Int32)) (by decide) d9_55 (by decide) (by decide) ?_
    exact Or.inl (⟨hc1, rfl, N8, e8⟩)
  · have N8 := Fr.app (Fr.nil _) N8q
    show Go p e below _ T8 (mkF m 47 #[.val (.ref (ad10 Z a0)), .val (.ref a1), .val (.ref a1)] [(.int (0 : Int32))])
    refine g_ifY X8 K (q := 54) d9_47 (by decide) (by decide) (by decide) ?_
    refine g_iconst X8 K (q := 55) (v := (0 : Int32)) d9_54 (by decide) rfl ?_
    refine g_nret X8 K (by simp) (z' := (0 : Int32)) (by decide) d9_55 (by decide) (by decide) ?_
    exact Or.inr (⟨hc2, rfl, N8, e8⟩)
set_option maxRecDepth 65536 in
set_option maxHeartbeats 40000000 in
theorem rm10_81 (l : Launch) {Z : State} {a0 : Array Value} (H : Hyp Z a0) (a1 : Addr) (p1 : Int32) (p2 : Int32) (k1 : ClassId) (h0 : Heap) (Ol : Old Z Z.heap.size h0) (A_1 : Arv Z h0 a1 k1 .byte (2 : Int32) [(.int p1), (.int p2)] (.int (0 : Int32))) (hc_1 : ¬ ((61 : Int32) = p2)) :
    Mt l Z (⟨"java/lang/StringLatin1", "equals", "([B[B)Z"⟩ : MethodName) jdk_43_method_13_code 3 (some .boolean) [] ({ frames := 0, cells := 0, slots := 0, locals := 0 } : Room) #[(.ref (ad18 Z a0)), (.ref a1)] h0 (fun v h L => ((62 : Int32) = p1 ∧ v = some (.int (0 : Int32)) ∧ Fr Z.heap.size L ∧ h = h0) ∨ (¬ ((62 : Int32) = p1) ∧ v = some (.int (0 : Int32)) ∧ Fr Z.heap.size L ∧ h = h0)) := by
  refine g_body (plainFor_of_name pn_java_lang_StringLatin1) ?_
  intro p e s m below meth c T0 K X0 e0
  refine g_entry (ef_6 m (ad18 Z a0) a1) ?_
  have Ol0 := Ol
  refine g_aloadN X0 K (q := 1) d10_0 rfl rfl rfl ?_
  refine g_len X0 K (q := 2) e0 ((v18 H).ext Ol0.2) d10_1 rfl ?_
  refine g_aloadN X0 K (q := 3) d10_2 rfl rfl rfl ?_
  refine g_len X0 K (q := 4) e0 A_1 d10_3 rfl ?_
  refine g_icN X0 K (q := 7) d10_4 (by decide) rfl ?_
  refine g_iconst X0 K (q := 8) (v := (0 : Int32)) d10_7 (by decide) rfl ?_
  refine g_istoreN X0 K (q := 9) (L' := #[.val (.ref (ad18 Z a0)), .val (.ref a1), .val (.int (0 : Int32))]) d10_8 rfl rfl ?_
  refine g_iloadN X0 K (q := 10) d10_9 rfl rfl ?_
  refine g_aloadN X0 K (q := 11) d10_10 rfl rfl rfl ?_
  refine g_len X0 K (q := 12) e0 ((v18 H).ext Ol0.2) d10_11 rfl ?_
  refine g_icN X0 K (q := 15) d10_12 (by decide) rfl ?_
  refine g_aloadN X0 K (q := 16) d10_15 rfl rfl rfl ?_
  refine g_iloadN X0 K (q := 17) d10_16 rfl rfl ?_
  refine g_bald X0 K (q := 18) (v := (.int (62 : Int32))) e0 ((v18 H).ext Ol0.2) (by decide) rfl d10_17 rfl ?_
  refine g_aloadN X0 K (q := 19) d10_18 rfl rfl rfl ?_
  refine g_iloadN X0 K (q := 20) d10_19 rfl rfl ?_
  refine g_bald X0 K (q := 21) (v := (.int p1)) e0 A_1 (by decide) rfl d10_20 rfl ?_
  by_cases hc1 : (62 : Int32) = p1
  · refine g_icY X0 K (q := 26) d10_21 (teq hc1).1 (by decide) (by decide) ?_
    refine g_iinc X0 K (q := 29) (z := (1 : Int32)) (L' := #[.val (.ref (ad18 Z a0)), .val (.ref a1), .val (.int (1 : Int32))]) d10_26 rfl (by decide) rfl rfl ?_
    refine g_goto X0 K (q := 9) d10_29 (by decide) (by decide) ?_
    refine g_iloadN X0 K (q := 10) d10_9 rfl rfl ?_
    refine g_aloadN X0 K (q := 11) d10_10 rfl rfl rfl ?_
    refine g_len X0 K (q := 12) e0 ((v18 H).ext Ol0.2) d10_11 rfl ?_
    refine g_icN X0 K (q := 15) d10_12 (by decide) rfl ?_
    refine g_aloadN X0 K (q := 16) d10_15 rfl rfl rfl ?_
    refine g_iloadN X0 K (q := 17) d10_16 rfl rfl ?_
    refine g_bald X0 K (q := 18) (v := (.int (61 : Int32))) e0 ((v18 H).ext Ol0.2) (by decide) rfl d10_17 rfl ?_
    refine g_aloadN X0 K (q := 19) d10_18 rfl rfl rfl ?_
    refine g_iloadN X0 K (q := 20) d10_19 rfl rfl ?_
    refine g_bald X0 K (q := 21) (v := (.int p2)) e0 A_1 (by decide) rfl d10_20 rfl ?_
    refine g_icN X0 K (q := 24) d10_21 (feq hc_1).1 rfl ?_
    refine g_iconst X0 K (q := 25) (v := (0 : Int32)) d10_24 (by decide) rfl ?_
    refine g_nret X0 K (by simp) (z' := (0 : Int32)) (by decide) d10_25 (by decide) (by decide) ?_
    exact Or.inl (⟨hc1, rfl, (Fr.nil _), e0⟩)
  · refine g_icN X0 K (q := 24) d10_21 (feq hc1).1 rfl ?_
    refine g_iconst X0 K (q := 25) (v := (0 : Int32)) d10_24 (by decide) rfl ?_
    refine g_nret X0 K (by simp) (z' := (0 : Int32)) (by decide) d10_25 (by decide) (by decide) ?_
    exact Or.inr (⟨hc1, rfl, (Fr.nil _), e0⟩)
set_option maxRecDepth 65536 in
set_option maxHeartbeats 40000000 in
theorem rm9_82 (l : Launch) {Z : State} {a0 : Array Value} (H : Hyp Z a0) (a1 : Addr) (a2 : Addr) (p1 : Int32) (p2 : Int32) (k1 : ClassId) (h0 : Heap) (Ol : Old Z Z.heap.size h0) (ge_1 : Z.heap.size ≤ a1) (E_1 : Exa Z h0 a1 "java/lang/String") (F_1 : Fld Z h0 a1 "java/lang/String" "coder" "B" (.int (0 : Int32))) (F_2 : Fld Z h0 a1 "java/lang/String" "value" "[B" (.ref a2)) (A_1 : Arv Z h0 a2 k1 .byte (2 : Int32) [(.int p1), (.int p2)] (.int (0 : Int32))) (hc_1 : ¬ ((61 : Int32) = p2)) :
    Mt l Z (⟨"java/lang/String", "equals", "(Ljava/lang/Object;)Z"⟩ : MethodName) jdk_42_method_66_code 3 (some .boolean) [] ({ frames := 1, cells := 0, slots := 0, locals := 14 } : Room) #[(.ref (ad12 Z a0)), (.ref a1)] h0 (fun v h L => ((62 : Int32) = p1 ∧ v = some (.int (0 : Int32)) ∧ Fr Z.heap.size L ∧ h = h0) ∨ (¬ ((62 : Int32) = p1) ∧ v = some (.int (0 : Int32)) ∧ Fr Z.heap.size L ∧ h = h0)) := by
  refine g_body (plainFor_of_name pn_java_lang_String) ?_
  intro p e s m below meth c T0 K X0 e0
  refine g_entry (ef_6 m (ad12 Z a0) a1) ?_
  have Ol0 := Ol
  refine g_aloadN X0 K (q := 1) d9_0 rfl rfl rfl ?_
  refine g_aloadN X0 K (q := 2) d9_1 rfl rfl rfl ?_
  have ne1 : (ad12 Z a0) ≠ a1 := (Nat.ne_of_lt (Nat.lt_of_lt_of_le (f12_value H).lt ge_1))
  refine g_ac X0 K (q := 7) (same := false) d9_2 rfl rfl (decide_eq_false fun q => ne1 (Value.ref.inj q)) (by decide) (by decide) ?_
  refine g_aloadN X0 K (q := 8) d9_7 rfl rfl rfl ?_
  refine g_instY X0 K (q := 11) (w64 H) e0 (Ins.self E_1) d9_8 rfl ?_
  intro T1 X1 e1
  refine g_ifN X1 K (q := 14) d9_11 (by decide) rfl ?_
  refine g_aloadN X1 K (q := 15) d9_14 rfl rfl rfl ?_
  refine g_cast X1 K (q := 18) (w64 H) e1 (Ins.self E_1) d9_15 rfl ?_
  intro T2 X2 e2
  refine g_astoreN X2 K (q := 19) (L' := #[.val (.ref (ad12 Z a0)), .val (.ref a1), .val (.ref a1)]) d9_18 rfl rfl rfl ?_
  refine g_gets X2 K (q := 22) (w65 H) e2 ((ivs0 H).ext Ol0.2) d9_19 rfl ?_
  intro T3 X3 e3
  refine g_ifN X3 K (q := 25) d9_22 (feq (ivn0 H)).1 rfl ?_
  refine g_aloadN X3 K (q := 26) d9_25 rfl rfl rfl ?_
  refine g_getf X3 K (q := 29) (w28 H) Via.refl e3 ((f12_coder H).ext Ol0.2) d9_26 rfl ?_
  intro T4 X4 e4
  refine g_aloadN X4 K (q := 30) d9_29 rfl rfl rfl ?_
  refine g_getf X4 K (q := 33) (w28 H) Via.refl e4 F_1 d9_30 rfl ?_
  intro T5 X5 e5
  refine g_icN X5 K (q := 36) d9_33 (by decide) rfl ?_
  refine g_aloadN X5 K (q := 37) d9_36 rfl rfl rfl ?_
  refine g_getf X5 K (q := 40) (w27 H) Via.refl e5 ((f12_value H).ext Ol0.2) d9_37 rfl ?_
  intro T6 X6 e6
  refine g_aloadN X6 K (q := 41) d9_40 rfl rfl rfl ?_
  refine g_getf X6 K (q := 44) (w27 H) Via.refl e6 F_2 d9_41 rfl ?_
  intro T7 X7 e7
  refine g_static X7 K (q := 47) (W := 0) (w66 H) (w67 H) (w68 H) (w69 H) (by decide) (rm10_81 l H a2 p1 p2 k1 h0 Ol0 A_1 hc_1) e7 rfl (argsL := [(.ref (ad18 Z a0)), (.ref a2)]) (rest := []) (lenOf pd_6 rfl) rfl rfl (Nat.le_of_eq rfl) d9_44 (by decide) (by decide) (by decide) (by decide) rfl ?_
  rintro T8 v8 L8 X8 (⟨hc1, rfl, N8q, e8⟩ | ⟨hc2, rfl, N8q, e8⟩)
  · have N8 := Fr.app (Fr.nil _) N8q
    show Go p e below _ T8 (mkF m 47 #[.val (.ref (ad12 Z a0)), .val (.ref a1), .val (.ref a1)] [(.int (0 : Int32))])
    refine g_ifY X8 K (q := 54) d9_47 (by decide) (by decide) (by decide) ?_
    refine g_iconst X8 K (q := 55) (v := (0 : Int32)) d9_54 (by decide) rfl ?_
    refine g_nret X8 K (by simp) (z' := (0 : Int32)) (by decide) d9_55 (by decide) (by decide) ?_
    exact Or.inl (⟨hc1, rfl, N8, e8⟩)
  · have N8 := Fr.app (Fr.nil _) N8q
    show Go p e below _ T8 (mkF m 47 #[.val (.ref (ad12 Z a0)), .val (.ref a1), .val (.ref a1)] [(.int (0 : Int32))])
    refine g_ifY X8 K (q := 54) d9_47 (by decide) (by decide) (by decide) ?_
    refine g_iconst X8 K (q := 55) (v := (0 : Int32)) d9_54 (by decide) rfl ?_
    refine g_nret X8 K (by simp) (z' := (0 : Int32)) (by decide) d9_55 (by decide) (by decide) ?_
    exact Or.inr (⟨hc2, rfl, N8, e8⟩)
set_option maxRecDepth 65536 in
set_option maxHeartbeats 40000000 in
theorem rm7_83 (l : Launch) {Z : State} {a0 : Array Value} (H : Hyp Z a0) (a1 : Addr) (a2 : Addr) (p1 : Int32) (p2 : Int32) (k1 : ClassId) (h0 : Heap) (Ol : Old Z Z.heap.size h0) (F_1 : Fld Z h0 a1 "java/lang/String" "coder" "B" (.int (0 : Int32))) (F_2 : Fld Z h0 a1 "java/lang/String" "value" "[B" (.ref a2)) (A_1 : Arv Z h0 a2 k1 .byte (2 : Int32) [(.int p1), (.int p2)] (.int (0 : Int32))) (ge_1 : Z.heap.size ≤ a1) (E_1 : Exa Z h0 a1 "java/lang/String") (hc_1 : ¬ ((61 : Int32) = p2)) :
    Mt l Z (⟨"com/example/annotable/annotable/PathQuery$Comparison", "of", "(Ljava/lang/String;)Lcom/example/annotable/annotable/PathQuery$Comparison;"⟩ : MethodName) prog_16_method_6_code 5 (some (.object "com/example/annotable/annotable/PathQuery$Comparison")) [] ({ frames := 2, cells := 1, slots := 6, locals := 28 } : Room) #[(.ref a1)] h0 (fun v h L => ((33 : Int32) = p1 ∧ (60 : Int32) = p1 ∧ (62 : Int32) = p1 ∧ v = some .null ∧ Fr Z.heap.size L ∧ Keep h0 h []) ∨ ((33 : Int32) = p1 ∧ (60 : Int32) = p1 ∧ ¬ ((62 : Int32) = p1) ∧ v = some .null ∧ Fr Z.heap.size L ∧ Keep h0 h []) ∨ ((33 : Int32) = p1 ∧ ¬ ((60 : Int32) = p1) ∧ (62 : Int32) = p1 ∧ v = some .null ∧ Fr Z.heap.size L ∧ Keep h0 h []) ∨ ((33 : Int32) = p1 ∧ ¬ ((60 : Int32) = p1) ∧ ¬ ((62 : Int32) = p1) ∧ v = some .null ∧ Fr Z.heap.size L ∧ Keep h0 h []) ∨ (¬ ((33 : Int32) = p1) ∧ (60 : Int32) = p1 ∧ (62 : Int32) = p1 ∧ v = some .null ∧ Fr Z.heap.size L ∧ Keep h0 h []) ∨ (¬ ((33 : Int32) = p1) ∧ (60 : Int32) = p1 ∧ ¬ ((62 : Int32) = p1) ∧ v = some .null ∧ Fr Z.heap.size L ∧ Keep h0 h []) ∨ (¬ ((33 : Int32) = p1) ∧ ¬ ((60 : Int32) = p1) ∧ (62 : Int32) = p1 ∧ v = some .null ∧ Fr Z.heap.size L ∧ Keep h0 h []) ∨ (¬ ((33 : Int32) = p1) ∧ ¬ ((60 : Int32) = p1) ∧ ¬ ((62 : Int32) = p1) ∧ v = some .null ∧ Fr Z.heap.size L ∧ Keep h0 h [])) := by
  refine g_body (plainFor_of_name pn_com_example_annotable_annotable_PathQuery_Comparison) ?_
  intro p e s m below meth c T0 K X0 e0
  refine g_entry (ef_7 m a1) ?_
  have nw_a1 : a1 ∉ [] := nin0
  have nw_a2 : a2 ∉ [] := nin0
  have Ol0 := Ol
  refine g_static X0 K (q := 3) (W := 0) (w36 H) (w37 H) (w34 H) (w38 H) (by decide) (rm8_6 l H h0 Ol0) e0 rfl (argsL := []) (rest := []) (lenOf pd_5 rfl) rfl rfl (Nat.le_of_eq rfl) d7_0 (by decide) (by decide) (by decide) (by decide) rfl ?_
  rintro T1 v1 L1 X1 ⟨bx1, rfl, N1q, Kc1, lz1_0, g1, g2⟩
  have szbx1 := Nat.le_trans (Keep.refl h0 []).1 lz1_0
  have gebx1 := Nat.le_trans Ol0.2.1 lz1_0
  have so1 := Sd.one bx1
  obtain ⟨N1, Ol1, Kp1⟩ := ivK (Fr.nil _) Ol0 (Keep.refl h0 []) N1q Kc1 all0 all0
  show Go p e below _ T1 (mkF m 3 #[.val (.ref a1), .unset, .unset, .unset, .unset] [(.ref bx1)])
  refine g_astoreN X1 K (q := 4) (L' := #[.val (.ref a1), .val (.ref bx1), .unset, .unset, .unset]) d7_3 rfl rfl rfl ?_
  refine g_aloadN X1 K (q := 5) d7_4 rfl rfl rfl ?_
  refine g_len X1 K (q := 6) rfl g1 d7_5 rfl ?_
  refine g_istoreN X1 K (q := 7) (L' := #[.val (.ref a1), .val (.ref bx1), .val (.int (6 : Int32)), .unset, .unset]) d7_6 rfl rfl ?_
  refine g_iconst X1 K (q := 8) (v := (0 : Int32)) d7_7 (by decide) rfl ?_
  refine g_istoreN X1 K (q := 9) (L' := #[.val (.ref a1), .val (.ref bx1), .val (.int (6 : Int32)), .val (.int (0 : Int32)), .unset]) d7_8 rfl rfl ?_
  refine g_iloadN X1 K (q := 10) d7_9 rfl rfl ?_
  refine g_iloadN X1 K (q := 11) d7_10 rfl rfl ?_
  refine g_icN X1 K (q := 14) d7_11 (by decide) rfl ?_
  refine g_aloadN X1 K (q := 15) d7_14 rfl rfl rfl ?_
  refine g_iloadN X1 K (q := 16) d7_15 rfl rfl ?_
  refine g_aald X1 K (q := 17) (v := (.ref (ad1 Z a0))) rfl g1 rfl (by decide) rfl d7_16 rfl ?_
  refine g_astore X1 K (q := 19) (L' := #[.val (.ref a1), .val (.ref bx1), .val (.int (6 : Int32)), .val (.int (0 : Int32)), .val (.ref (ad1 Z a0))]) d7_17 rfl rfl rfl ?_
  refine g_aload X1 K (q := 21) d7_19 rfl rfl rfl ?_
  refine g_getf X1 K (q := 24) (w57 H) Via.refl rfl ((f1_symbol H).ext Ol1.2) d7_21 rfl ?_
  intro T2 X2 e2
  refine g_aloadN X2 K (q := 25) d7_24 rfl rfl rfl ?_
  have f1 := E_1.keep Kp1
  have f2 := F_1.keep Kp1 nw_a1
  have f3 := F_2.keep Kp1 nw_a1
  have f4 := A_1.keep Kp1 nw_a2
  refine g_virtual X2 K (q := 28) (W := 0) (a := (ad7 Z a0)) (w59 H) (w60 H) (nf_self K (w62 H)) (w62 H) (w61 H) (w9 H) (w63 H) (by decide) (rm9_56 l H a1 a2 p1 p2 k1 T1.heap Ol1 ge_1 f1 f2 f3 f4) e2 ((x7 H).ext Ol1.2) rfl (argsL := [(.ref a1)]) (rest := []) (lenOf pd_7 rfl) rfl rfl (Nat.le_of_eq rfl) d7_25 (by decide) (by decide) (by decide) (by decide) rfl ?_
  rintro T3 v3 L3 X3 ⟨rfl, N3q, e3⟩
  have N3 := Fr.app N1 N3q
  show Go p e below _ T3 (mkF m 28 #[.val (.ref a1), .val (.ref bx1), .val (.int (6 : Int32)), .val (.int (0 : Int32)), .val (.ref (ad1 Z a0))] [(.int (0 : Int32))])
  refine g_ifY X3 K (q := 34) d7_28 (by decide) (by decide) (by decide) ?_
  refine g_iinc X3 K (q := 37) (z := (1 : Int32)) (L' := #[.val (.ref a1), .val (.ref bx1), .val (.int (6 : Int32)), .val (.int (1 : Int32)), .val (.ref (ad1 Z a0))]) d7_34 rfl (by decide) rfl rfl ?_
  refine g_goto X3 K (q := 9) d7_37 (by decide) (by decide) ?_
  refine g_iloadN X3 K (q := 10) d7_9 rfl rfl ?_
  refine g_iloadN X3 K (q := 11) d7_10 rfl rfl ?_
  refine g_icN X3 K (q := 14) d7_11 (by decide) rfl ?_
  refine g_aloadN X3 K (q := 15) d7_14 rfl rfl rfl ?_
  refine g_iloadN X3 K (q := 16) d7_15 rfl rfl ?_
  refine g_aald X3 K (q := 17) (v := (.ref (ad2 Z a0))) e3 g1 rfl (by decide) rfl d7_16 rfl ?_
  refine g_astore X3 K (q := 19) (L' := #[.val (.ref a1), .val (.ref bx1), .val (.int (6 : Int32)), .val (.int (1 : Int32)), .val (.ref (ad2 Z a0))]) d7_17 rfl rfl rfl ?_
  refine g_aload X3 K (q := 21) d7_19 rfl rfl rfl ?_
  refine g_getf X3 K (q := 24) (w57 H) Via.refl e3 ((f2_symbol H).ext Ol1.2) d7_21 rfl ?_
  intro T4 X4 e4
  refine g_aloadN X4 K (q := 25) d7_24 rfl rfl rfl ?_
  refine g_virtual X4 K (q := 28) (W := 0) (a := (ad8 Z a0)) (w59 H) (w60 H) (nf_self K (w62 H)) (w62 H) (w61 H) (w9 H) (w63 H) (by decide) (rm9_78 l H a1 a2 p1 p2 k1 T1.heap Ol1 ge_1 f1 f2 f3 f4 hc_1) e4 ((x8 H).ext Ol1.2) rfl (argsL := [(.ref a1)]) (rest := []) (lenOf pd_7 rfl) rfl rfl (Nat.le_of_eq rfl) d7_25 (by decide) (by decide) (by decide) (by decide) rfl ?_
  rintro T5 v5 L5 X5 (⟨hc1, rfl, N5q, e5⟩ | ⟨hc2, rfl, N5q, e5⟩)
  · have N5 := Fr.app N3 N5q
    show Go p e below _ T5 (mkF m 28 #[.val (.ref a1), .val (.ref bx1), .val (.int (6 : Int32)), .val (.int (1 : Int32)), .val (.ref (ad2 Z a0))] [(.int (0 : Int32))])
    refine g_ifY X5 K (q := 34) d7_28 (by decide) (by decide) (by decide) ?_
    refine g_iinc X5 K (q := 37) (z := (2 : Int32)) (L' := #[.val (.ref a1), .val (.ref bx1), .val (.int (6 : Int32)), .val (.int (2 : Int32)), .val (.ref (ad2 Z a0))]) d7_34 rfl (by decide) rfl rfl ?_
    refine g_goto X5 K (q := 9) d7_37 (by decide) (by decide) ?_
    refine g_iloadN X5 K (q := 10) d7_9 rfl rfl ?_
    refine g_iloadN X5 K (q := 11) d7_10 rfl rfl ?_
    refine g_icN X5 K (q := 14) d7_11 (by decide) rfl ?_
    refine g_aloadN X5 K (q := 15) d7_14 rfl rfl rfl ?_
    refine g_iloadN X5 K (q := 16) d7_15 rfl rfl ?_
    refine g_aald X5 K (q := 17) (v := (.ref (ad3 Z a0))) e5 g1 rfl (by decide) rfl d7_16 rfl ?_
    refine g_astore X5 K (q := 19) (L' := #[.val (.ref a1), .val (.ref bx1), .val (.int (6 : Int32)), .val (.int (2 : Int32)), .val (.ref (ad3 Z a0))]) d7_17 rfl rfl rfl ?_
    refine g_aload X5 K (q := 21) d7_19 rfl rfl rfl ?_
    refine g_getf X5 K (q := 24) (w57 H) Via.refl e5 ((f3_symbol H).ext Ol1.2) d7_21 rfl ?_
    intro T6 X6 e6
    refine g_aloadN X6 K (q := 25) d7_24 rfl rfl rfl ?_
    refine g_virtual X6 K (q := 28) (W := 0) (a := (ad9 Z a0)) (w59 H) (w60 H) (nf_self K (w62 H)) (w62 H) (w61 H) (w9 H) (w63 H) (by decide) (rm9_63 l H a1 a2 p1 p2 k1 T1.heap Ol1 ge_1 f1 f2 f3 f4) e6 ((x9 H).ext Ol1.2) rfl (argsL := [(.ref a1)]) (rest := []) (lenOf pd_7 rfl) rfl rfl (Nat.le_of_eq rfl) d7_25 (by decide) (by decide) (by decide) (by decide) rfl ?_
    rintro T7 v7 L7 X7 ⟨rfl, N7q, e7⟩
    have N7 := Fr.app N5 N7q
    show Go p e below _ T7 (mkF m 28 #[.val (.ref a1), .val (.ref bx1), .val (.int (6 : Int32)), .val (.int (2 : Int32)), .val (.ref (ad3 Z a0))] [(.int (0 : Int32))])
    refine g_ifY X7 K (q := 34) d7_28 (by decide) (by decide) (by decide) ?_
    refine g_iinc X7 K (q := 37) (z := (3 : Int32)) (L' := #[.val (.ref a1), .val (.ref bx1), .val (.int (6 : Int32)), .val (.int (3 : Int32)), .val (.ref (ad3 Z a0))]) d7_34 rfl (by decide) rfl rfl ?_
    refine g_goto X7 K (q := 9) d7_37 (by decide) (by decide) ?_
    refine g_iloadN X7 K (q := 10) d7_9 rfl rfl ?_
    refine g_iloadN X7 K (q := 11) d7_10 rfl rfl ?_
    refine g_icN X7 K (q := 14) d7_11 (by decide) rfl ?_
    refine g_aloadN X7 K (q := 15) d7_14 rfl rfl rfl ?_
    refine g_iloadN X7 K (q := 16) d7_15 rfl rfl ?_
    refine g_aald X7 K (q := 17) (v := (.ref (ad4 Z a0))) e7 g1 rfl (by decide) rfl d7_16 rfl ?_
    refine g_astore X7 K (q := 19) (L' := #[.val (.ref a1), .val (.ref bx1), .val (.int (6 : Int32)), .val (.int (3 : Int32)), .val (.ref (ad4 Z a0))]) d7_17 rfl rfl rfl ?_
    refine g_aload X7 K (q := 21) d7_19 rfl rfl rfl ?_
    refine g_getf X7 K (q := 24) (w57 H) Via.refl e7 ((f4_symbol H).ext Ol1.2) d7_21 rfl ?_
    intro T8 X8 e8
    refine g_aloadN X8 K (q := 25) d7_24 rfl rfl rfl ?_
    refine g_virtual X8 K (q := 28) (W := 0) (a := (ad10 Z a0)) (w59 H) (w60 H) (nf_self K (w62 H)) (w62 H) (w61 H) (w9 H) (w63 H) (by decide) (rm9_80 l H a1 a2 p1 p2 k1 T1.heap Ol1 ge_1 f1 f2 f3 f4 hc_1) e8 ((x10 H).ext Ol1.2) rfl (argsL := [(.ref a1)]) (rest := []) (lenOf pd_7 rfl) rfl rfl (Nat.le_of_eq rfl) d7_25 (by decide) (by decide) (by decide) (by decide) rfl ?_
    rintro T9 v9 L9 X9 (⟨hc3, rfl, N9q, e9⟩ | ⟨hc4, rfl, N9q, e9⟩)
    · have N9 := Fr.app N7 N9q
      show Go p e below _ T9 (mkF m 28 #[.val (.ref a1), .val (.ref bx1), .val (.int (6 : Int32)), .val (.int (3 : Int32)), .val (.ref (ad4 Z a0))] [(.int (0 : Int32))])
      refine g_ifY X9 K (q := 34) d7_28 (by decide) (by decide) (by decide) ?_
      refine g_iinc X9 K (q := 37) (z := (4 : Int32)) (L' := #[.val (.ref a1), .val (.ref bx1), .val (.int (6 : Int32)), .val (.int (4 : Int32)), .val (.ref (ad4 Z a0))]) d7_34 rfl (by decide) rfl rfl ?_
      refine g_goto X9 K (q := 9) d7_37 (by decide) (by decide) ?_
      refine g_iloadN X9 K (q := 10) d7_9 rfl rfl ?_
      refine g_iloadN X9 K (q := 11) d7_10 rfl rfl ?_
      refine g_icN X9 K (q := 14) d7_11 (by decide) rfl ?_
      refine g_aloadN X9 K (q := 15) d7_14 rfl rfl rfl ?_
      refine g_iloadN X9 K (q := 16) d7_15 rfl rfl ?_
      refine g_aald X9 K (q := 17) (v := (.ref (ad5 Z a0))) e9 g1 rfl (by decide) rfl d7_16 rfl ?_
      refine g_astore X9 K (q := 19) (L' := #[.val (.ref a1), .val (.ref bx1), .val (.int (6 : Int32)), .val (.int (4 : Int32)), .val (.ref (ad5 Z a0))]) d7_17 rfl rfl rfl ?_
      refine g_aload X9 K (q := 21) d7_19 rfl rfl rfl ?_
      refine g_getf X9 K (q := 24) (w57 H) Via.refl e9 ((f5_symbol H).ext Ol1.2) d7_21 rfl ?_
      intro T10 X10 e10
      refine g_aloadN X10 K (q := 25) d7_24 rfl rfl rfl ?_
      refine g_virtual X10 K (q := 28) (W := 0) (a := (ad11 Z a0)) (w59 H) (w60 H) (nf_self K (w62 H)) (w62 H) (w61 H) (w9 H) (w63 H) (by decide) (rm9_70 l H a1 a2 p1 p2 k1 T1.heap Ol1 ge_1 f1 f2 f3 f4) e10 ((x11 H).ext Ol1.2) rfl (argsL := [(.ref a1)]) (rest := []) (lenOf pd_7 rfl) rfl rfl (Nat.le_of_eq rfl) d7_25 (by decide) (by decide) (by decide) (by decide) rfl ?_
      rintro T11 v11 L11 X11 ⟨rfl, N11q, e11⟩
      have N11 := Fr.app N9 N11q
      show Go p e below _ T11 (mkF m 28 #[.val (.ref a1), .val (.ref bx1), .val (.int (6 : Int32)), .val (.int (4 : Int32)), .val (.ref (ad5 Z a0))] [(.int (0 : Int32))])
      refine g_ifY X11 K (q := 34) d7_28 (by decide) (by decide) (by decide) ?_
      refine g_iinc X11 K (q := 37) (z := (5 : Int32)) (L' := #[.val (.ref a1), .val (.ref bx1), .val (.int (6 : Int32)), .val (.int (5 : Int32)), .val (.ref (ad5 Z a0))]) d7_34 rfl (by decide) rfl rfl ?_
      refine g_goto X11 K (q := 9) d7_37 (by decide) (by decide) ?_
      refine g_iloadN X11 K (q := 10) d7_9 rfl rfl ?_
      refine g_iloadN X11 K (q := 11) d7_10 rfl rfl ?_
      refine g_icN X11 K (q := 14) d7_11 (by decide) rfl ?_
      refine g_aloadN X11 K (q := 15) d7_14 rfl rfl rfl ?_
      refine g_iloadN X11 K (q := 16) d7_15 rfl rfl ?_
      refine g_aald X11 K (q := 17) (v := (.ref (ad6 Z a0))) e11 g1 rfl (by decide) rfl d7_16 rfl ?_
      refine g_astore X11 K (q := 19) (L' := #[.val (.ref a1), .val (.ref bx1), .val (.int (6 : Int32)), .val (.int (5 : Int32)), .val (.ref (ad6 Z a0))]) d7_17 rfl rfl rfl ?_
      refine g_aload X11 K (q := 21) d7_19 rfl rfl rfl ?_
      refine g_getf X11 K (q := 24) (w57 H) Via.refl e11 ((f6_symbol H).ext Ol1.2) d7_21 rfl ?_
      intro T12 X12 e12
      refine g_aloadN X12 K (q := 25) d7_24 rfl rfl rfl ?_
      refine g_virtual X12 K (q := 28) (W := 0) (a := (ad12 Z a0)) (w59 H) (w60 H) (nf_self K (w62 H)) (w62 H) (w61 H) (w9 H) (w63 H) (by decide) (rm9_82 l H a1 a2 p1 p2 k1 T1.heap Ol1 ge_1 f1 f2 f3 f4 hc_1) e12 ((x12 H).ext Ol1.2) rfl (argsL := [(.ref a1)]) (rest := []) (lenOf pd_7 rfl) rfl rfl (Nat.le_of_eq rfl) d7_25 (by decide) (by decide) (by decide) (by decide) rfl ?_
      rintro T13 v13 L13 X13 (⟨hc5, rfl, N13q, e13⟩ | ⟨hc6, rfl, N13q, e13⟩)
      · have N13 := Fr.app N11 N13q
        show Go p e below _ T13 (mkF m 28 #[.val (.ref a1), .val (.ref bx1), .val (.int (6 : Int32)), .val (.int (5 : Int32)), .val (.ref (ad6 Z a0))] [(.int (0 : Int32))])
        refine g_ifY X13 K (q := 34) d7_28 (by decide) (by decide) (by decide) ?_
        refine g_iinc X13 K (q := 37) (z := (6 : Int32)) (L' := #[.val (.ref a1), .val (.ref bx1), .val (.int (6 : Int32)), .val (.int (6 : Int32)), .val (.ref (ad6 Z a0))]) d7_34 rfl (by decide) rfl rfl ?_
        refine g_goto X13 K (q := 9) d7_37 (by decide) (by decide) ?_
        refine g_iloadN X13 K (q := 10) d7_9 rfl rfl ?_
        refine g_iloadN X13 K (q := 11) d7_10 rfl rfl ?_
        refine g_icY X13 K (q := 40) d7_11 (by decide) (by decide) (by decide) ?_
        refine g_null X13 K (q := 41) d7_40 rfl ?_
        refine g_aret X13 K rfl rfl rfl d7_41 (by decide) (by decide) ?_
        have Kp : Keep h0 T13.heap [] := by rw [e13]; exact Kp1
        exact Or.inl (⟨hc1, hc3, hc5, rfl, N13, Kp⟩)
      · have N13 := Fr.app N11 N13q
        show Go p e below _ T13 (mkF m 28 #[.val (.ref a1), .val (.ref bx1), .val (.int (6 : Int32)), .val (.int (5 : Int32)), .val (.ref (ad6 Z a0))] [(.int (0 : Int32))])
        refine g_ifY X13 K (q := 34) d7_28 (by decide) (by decide) (by decide) ?_
        refine g_iinc X13 K (q := 37) (z := (6 : Int32)) (L' := #[.val (.ref a1), .val (.ref bx1), .val (.int (6 : Int32)), .val (.int (6 : Int32)), .val (.ref (ad6 Z a0))]) d7_34 rfl (by decide) rfl rfl ?_
        refine g_goto X13 K (q := 9) d7_37 (by decide) (by decide) ?_
        refine g_iloadN X13 K (q := 10) d7_9 rfl rfl ?_
        refine g_iloadN X13 K (q := 11) d7_10 rfl rfl ?_
        refine g_icY X13 K (q := 40) d7_11 (by decide) (by decide) (by decide) ?_
        refine g_null X13 K (q := 41) d7_40 rfl ?_
        refine g_aret X13 K rfl rfl rfl d7_41 (by decide) (by decide) ?_
        have Kp : Keep h0 T13.heap [] := by rw [e13]; exact Kp1
        exact Or.inr (Or.inl (⟨hc1, hc3, hc6, rfl, N13, Kp⟩))
    · have N9 := Fr.app N7 N9q
      show Go p e below _ T9 (mkF m 28 #[.val (.ref a1), .val (.ref bx1), .val (.int (6 : Int32)), .val (.int (3 : Int32)), .val (.ref (ad4 Z a0))] [(.int (0 : Int32))])
      refine g_ifY X9 K (q := 34) d7_28 (by decide) (by decide) (by decide) ?_
      refine g_iinc X9 K (q := 37) (z := (4 : Int32)) (L' := #[.val (.ref a1), .val (.ref bx1), .val (.int (6 : Int32)), .val (.int (4 : Int32)), .val (.ref (ad4 Z a0))]) d7_34 rfl (by decide) rfl rfl ?_
      refine g_goto X9 K (q := 9) d7_37 (by decide) (by decide) ?_
      refine g_iloadN X9 K (q := 10) d7_9 rfl rfl ?_
      refine g_iloadN X9 K (q := 11) d7_10 rfl rfl ?_
      refine g_icN X9 K (q := 14) d7_11 (by decide) rfl ?_
      refine g_aloadN X9 K (q := 15) d7_14 rfl rfl rfl ?_
      refine g_iloadN X9 K (q := 16) d7_15 rfl rfl ?_
      refine g_aald X9 K (q := 17) (v := (.ref (ad5 Z a0))) e9 g1 rfl (by decide) rfl d7_16 rfl ?_
      refine g_astore X9 K (q := 19) (L' := #[.val (.ref a1), .val (.ref bx1), .val (.int (6 : Int32)), .val (.int (4 : Int32)), .val (.ref (ad5 Z a0))]) d7_17 rfl rfl rfl ?_
      refine g_aload X9 K (q := 21) d7_19 rfl rfl rfl ?_
      refine g_getf X9 K (q := 24) (w57 H) Via.refl e9 ((f5_symbol H).ext Ol1.2) d7_21 rfl ?_
      intro T14 X14 e14
      refine g_aloadN X14 K (q := 25) d7_24 rfl rfl rfl ?_
      refine g_virtual X14 K (q := 28) (W := 0) (a := (ad11 Z a0)) (w59 H) (w60 H) (nf_self K (w62 H)) (w62 H) (w61 H) (w9 H) (w63 H) (by decide) (rm9_70 l H a1 a2 p1 p2 k1 T1.heap Ol1 ge_1 f1 f2 f3 f4) e14 ((x11 H).ext Ol1.2) rfl (argsL := [(.ref a1)]) (rest := []) (lenOf pd_7 rfl) rfl rfl (Nat.le_of_eq rfl) d7_25 (by decide) (by decide) (by decide) (by decide) rfl ?_
      rintro T15 v15 L15 X15 ⟨rfl, N15q, e15⟩
      have N15 := Fr.app N9 N15q
      show Go p e below _ T15 (mkF m 28 #[.val (.ref a1), .val (.ref bx1), .val (.int (6 : Int32)), .val (.int (4 : Int32)), .val (.ref (ad5 Z a0))] [(.int (0 : Int32))])
      refine g_ifY X15 K (q := 34) d7_28 (by decide) (by decide) (by decide) ?_
      refine g_iinc X15 K (q := 37) (z := (5 : Int32)) (L' := #[.val (.ref a1), .val (.ref bx1), .val (.int (6 : Int32)), .val (.int (5 : Int32)), .val (.ref (ad5 Z a0))]) d7_34 rfl (by decide) rfl rfl ?_
      refine g_goto X15 K (q := 9) d7_37 (by decide) (by decide) ?_
      refine g_iloadN X15 K (q := 10) d7_9 rfl rfl ?_
      refine g_iloadN X15 K (q := 11) d7_10 rfl rfl ?_
      refine g_icN X15 K (q := 14) d7_11 (by decide) rfl ?_
      refine g_aloadN X15 K (q := 15) d7_14 rfl rfl rfl ?_
      refine g_iloadN X15 K (q := 16) d7_15 rfl rfl ?_
      refine g_aald X15 K (q := 17) (v := (.ref (ad6 Z a0))) e15 g1 rfl (by decide) rfl d7_16 rfl ?_
      refine g_astore X15 K (q := 19) (L' := #[.val (.ref a1), .val (.ref bx1), .val (.int (6 : Int32)), .val (.int (5 : Int32)), .val (.ref (ad6 Z a0))]) d7_17 rfl rfl rfl ?_
      refine g_aload X15 K (q := 21) d7_19 rfl rfl rfl ?_
      refine g_getf X15 K (q := 24) (w57 H) Via.refl e15 ((f6_symbol H).ext Ol1.2) d7_21 rfl ?_
      intro T16 X16 e16
      refine g_aloadN X16 K (q := 25) d7_24 rfl rfl rfl ?_
      refine g_virtual X16 K (q := 28) (W := 0) (a := (ad12 Z a0)) (w59 H) (w60 H) (nf_self K (w62 H)) (w62 H) (w61 H) (w9 H) (w63 H) (by decide) (rm9_82 l H a1 a2 p1 p2 k1 T1.heap Ol1 ge_1 f1 f2 f3 f4 hc_1) e16 ((x12 H).ext Ol1.2) rfl (argsL := [(.ref a1)]) (rest := []) (lenOf pd_7 rfl) rfl rfl (Nat.le_of_eq rfl) d7_25 (by decide) (by decide) (by decide) (by decide) rfl ?_
      rintro T17 v17 L17 X17 (⟨hc7, rfl, N17q, e17⟩ | ⟨hc8, rfl, N17q, e17⟩)
      · have N17 := Fr.app N15 N17q
        show Go p e below _ T17 (mkF m 28 #[.val (.ref a1), .val (.ref bx1), .val (.int (6 : Int32)), .val (.int (5 : Int32)), .val (.ref (ad6 Z a0))] [(.int (0 : Int32))])
        refine g_ifY X17 K (q := 34) d7_28 (by decide) (by decide) (by decide) ?_
        refine g_iinc X17 K (q := 37) (z := (6 : Int32)) (L' := #[.val (.ref a1), .val (.ref bx1), .val (.int (6 : Int32)), .val (.int (6 : Int32)), .val (.ref (ad6 Z a0))]) d7_34 rfl (by decide) rfl rfl ?_
        refine g_goto X17 K (q := 9) d7_37 (by decide) (by decide) ?_
        refine g_iloadN X17 K (q := 10) d7_9 rfl rfl ?_
        refine g_iloadN X17 K (q := 11) d7_10 rfl rfl ?_
        refine g_icY X17 K (q := 40) d7_11 (by decide) (by decide) (by decide) ?_
        refine g_null X17 K (q := 41) d7_40 rfl ?_
        refine g_aret X17 K rfl rfl rfl d7_41 (by decide) (by decide) ?_
        have Kp : Keep h0 T17.heap [] := by rw [e17]; exact Kp1
        exact Or.inr (Or.inr (Or.inl (⟨hc1, hc4, hc7, rfl, N17, Kp⟩)))
      · have N17 := Fr.app N15 N17q
        show Go p e below _ T17 (mkF m 28 #[.val (.ref a1), .val (.ref bx1), .val (.int (6 : Int32)), .val (.int (5 : Int32)), .val (.ref (ad6 Z a0))] [(.int (0 : Int32))])
        refine g_ifY X17 K (q := 34) d7_28 (by decide) (by decide) (by decide) ?_
        refine g_iinc X17 K (q := 37) (z := (6 : Int32)) (L' := #[.val (.ref a1), .val (.ref bx1), .val (.int (6 : Int32)), .val (.int (6 : Int32)), .val (.ref (ad6 Z a0))]) d7_34 rfl (by decide) rfl rfl ?_
        refine g_goto X17 K (q := 9) d7_37 (by decide) (by decide) ?_
        refine g_iloadN X17 K (q := 10) d7_9 rfl rfl ?_
        refine g_iloadN X17 K (q := 11) d7_10 rfl rfl ?_
        refine g_icY X17 K (q := 40) d7_11 (by decide) (by decide) (by decide) ?_
        refine g_null X17 K (q := 41) d7_40 rfl ?_
        refine g_aret X17 K rfl rfl rfl d7_41 (by decide) (by decide) ?_
        have Kp : Keep h0 T17.heap [] := by rw [e17]; exact Kp1
        exact Or.inr (Or.inr (Or.inr (Or.inl (⟨hc1, hc4, hc8, rfl, N17, Kp⟩))))
  · have N5 := Fr.app N3 N5q
    show Go p e below _ T5 (mkF m 28 #[.val (.ref a1), .val (.ref bx1), .val (.int (6 : Int32)), .val (.int (1 : Int32)), .val (.ref (ad2 Z a0))] [(.int (0 : Int32))])
    refine g_ifY X5 K (q := 34) d7_28 (by decide) (by decide) (by decide) ?_
    refine g_iinc X5 K (q := 37) (z := (2 : Int32)) (L' := #[.val (.ref a1), .val (.ref bx1), .val (.int (6 : Int32)), .val (.int (2 : Int32)), .val (.ref (ad2 Z a0))]) d7_34 rfl (by decide) rfl rfl ?_
    refine g_goto X5 K (q := 9) d7_37 (by decide) (by decide) ?_
    refine g_iloadN X5 K (q := 10) d7_9 rfl rfl ?_
    refine g_iloadN X5 K (q := 11) d7_10 rfl rfl ?_
    refine g_icN X5 K (q := 14) d7_11 (by decide) rfl ?_
    refine g_aloadN X5 K (q := 15) d7_14 rfl rfl rfl ?_
    refine g_iloadN X5 K (q := 16) d7_15 rfl rfl ?_
    refine g_aald X5 K (q := 17) (v := (.ref (ad3 Z a0))) e5 g1 rfl (by decide) rfl d7_16 rfl ?_
    refine g_astore X5 K (q := 19) (L' := #[.val (.ref a1), .val (.ref bx1), .val (.int (6 : Int32)), .val (.int (2 : Int32)), .val (.ref (ad3 Z a0))]) d7_17 rfl rfl rfl ?_
    refine g_aload X5 K (q := 21) d7_19 rfl rfl rfl ?_
    refine g_getf X5 K (q := 24) (w57 H) Via.refl e5 ((f3_symbol H).ext Ol1.2) d7_21 rfl ?_
    intro T18 X18 e18
    refine g_aloadN X18 K (q := 25) d7_24 rfl rfl rfl ?_
    refine g_virtual X18 K (q := 28) (W := 0) (a := (ad9 Z a0)) (w59 H) (w60 H) (nf_self K (w62 H)) (w62 H) (w61 H) (w9 H) (w63 H) (by decide) (rm9_63 l H a1 a2 p1 p2 k1 T1.heap Ol1 ge_1 f1 f2 f3 f4) e18 ((x9 H).ext Ol1.2) rfl (argsL := [(.ref a1)]) (rest := []) (lenOf pd_7 rfl) rfl rfl (Nat.le_of_eq rfl) d7_25 (by decide) (by decide) (by decide) (by decide) rfl ?_
    rintro T19 v19 L19 X19 ⟨rfl, N19q, e19⟩
    have N19 := Fr.app N5 N19q
    show Go p e below _ T19 (mkF m 28 #[.val (.ref a1), .val (.ref bx1), .val (.int (6 : Int32)), .val (.int (2 : Int32)), .val (.ref (ad3 Z a0))] [(.int (0 : Int32))])
    refine g_ifY X19 K (q := 34) d7_28 (by decide) (by decide) (by decide) ?_
    refine g_iinc X19 K (q := 37) (z := (3 : Int32)) (L' := #[.val (.ref a1), .val (.ref bx1), .val (.int (6 : Int32)), .val (.int (3 : Int32)), .val (.ref (ad3 Z a0))]) d7_34 rfl (by decide) rfl rfl ?_
    refine g_goto X19 K (q := 9) d7_37 (by decide) (by decide) ?_
    refine g_iloadN X19 K (q := 10) d7_9 rfl rfl ?_
    refine g_iloadN X19 K (q := 11) d7_10 rfl rfl ?_
    refine g_icN X19 K (q := 14) d7_11 (by decide) rfl ?_
    refine g_aloadN X19 K (q := 15) d7_14 rfl rfl rfl ?_
    refine g_iloadN X19 K (q := 16) d7_15 rfl rfl ?_
    refine g_aald X19 K (q := 17) (v := (.ref (ad4 Z a0))) e19 g1 rfl (by decide) rfl d7_16 rfl ?_
    refine g_astore X19 K (q := 19) (L' := #[.val (.ref a1), .val (.ref bx1), .val (.int (6 : Int32)), .val (.int (3 : Int32)), .val (.ref (ad4 Z a0))]) d7_17 rfl rfl rfl ?_
    refine g_aload X19 K (q := 21) d7_19 rfl rfl rfl ?_
    refine g_getf X19 K (q := 24) (w57 H) Via.refl e19 ((f4_symbol H).ext Ol1.2) d7_21 rfl ?_
    intro T20 X20 e20
    refine g_aloadN X20 K (q := 25) d7_24 rfl rfl rfl ?_
    refine g_virtual X20 K (q := 28) (W := 0) (a := (ad10 Z a0)) (w59 H) (w60 H) (nf_self K (w62 H)) (w62 H) (w61 H) (w9 H) (w63 H) (by decide) (rm9_80 l H a1 a2 p1 p2 k1 T1.heap Ol1 ge_1 f1 f2 f3 f4 hc_1) e20 ((x10 H).ext Ol1.2) rfl (argsL := [(.ref a1)]) (rest := []) (lenOf pd_7 rfl) rfl rfl (Nat.le_of_eq rfl) d7_25 (by decide) (by decide) (by decide) (by decide) rfl ?_
    rintro T21 v21 L21 X21 (⟨hc9, rfl, N21q, e21⟩ | ⟨hc10, rfl, N21q, e21⟩)
    · have N21 := Fr.app N19 N21q
      show Go p e below _ T21 (mkF m 28 #[.val (.ref a1), .val (.ref bx1), .val (.int (6 : Int32)), .val (.int (3 : Int32)), .val (.ref (ad4 Z a0))] [(.int (0 : Int32))])
      refine g_ifY X21 K (q := 34) d7_28 (by decide) (by decide) (by decide) ?_
      refine g_iinc X21 K (q := 37) (z := (4 : Int32)) (L' := #[.val (.ref a1), .val (.ref bx1), .val (.int (6 : Int32)), .val (.int (4 : Int32)), .val (.ref (ad4 Z a0))]) d7_34 rfl (by decide) rfl rfl ?_
      refine g_goto X21 K (q := 9) d7_37 (by decide) (by decide) ?_
      refine g_iloadN X21 K (q := 10) d7_9 rfl rfl ?_
      refine g_iloadN X21 K (q := 11) d7_10 rfl rfl ?_
      refine g_icN X21 K (q := 14) d7_11 (by decide) rfl ?_
      refine g_aloadN X21 K (q := 15) d7_14 rfl rfl rfl ?_
      refine g_iloadN X21 K (q := 16) d7_15 rfl rfl ?_
      refine g_aald X21 K (q := 17) (v := (.ref (ad5 Z a0))) e21 g1 rfl (by decide) rfl d7_16 rfl ?_
      refine g_astore X21 K (q := 19) (L' := #[.val (.ref a1), .val (.ref bx1), .val (.int (6 : Int32)), .val (.int (4 : Int32)), .val (.ref (ad5 Z a0))]) d7_17 rfl rfl rfl ?_
      refine g_aload X21 K (q := 21) d7_19 rfl rfl rfl ?_
      refine g_getf X21 K (q := 24) (w57 H) Via.refl e21 ((f5_symbol H).ext Ol1.2) d7_21 rfl ?_
      intro T22 X22 e22
      refine g_aloadN X22 K (q := 25) d7_24 rfl rfl rfl ?_
      refine g_virtual X22 K (q := 28) (W := 0) (a := (ad11 Z a0)) (w59 H) (w60 H) (nf_self K (w62 H)) (w62 H) (w61 H) (w9 H) (w63 H) (by decide) (rm9_70 l H a1 a2 p1 p2 k1 T1.heap Ol1 ge_1 f1 f2 f3 f4) e22 ((x11 H).ext Ol1.2) rfl (argsL := [(.ref a1)]) (rest := []) (lenOf pd_7 rfl) rfl rfl (Nat.le_of_eq rfl) d7_25 (by decide) (by decide) (by decide) (by decide) rfl ?_
      rintro T23 v23 L23 X23 ⟨rfl, N23q, e23⟩
      have N23 := Fr.app N21 N23q
      show Go p e below _ T23 (mkF m 28 #[.val (.ref a1), .val (.ref bx1), .val (.int (6 : Int32)), .val (.int (4 : Int32)), .val (.ref (ad5 Z a0))] [(.int (0 : Int32))])
      refine g_ifY X23 K (q := 34) d7_28 (by decide) (by decide) (by decide) ?_
      refine g_iinc X23 K (q := 37) (z := (5 : Int32)) (L' := #[.val (.ref a1), .val (.ref bx1), .val (.int (6 : Int32)), .val (.int (5 : Int32)), .val (.ref (ad5 Z a0))]) d7_34 rfl (by decide) rfl rfl ?_
      refine g_goto X23 K (q := 9) d7_37 (by decide) (by decide) ?_
      refine g_iloadN X23 K (q := 10) d7_9 rfl rfl ?_
      refine g_iloadN X23 K (q := 11) d7_10 rfl rfl ?_
      refine g_icN X23 K (q := 14) d7_11 (by decide) rfl ?_
      refine g_aloadN X23 K (q := 15) d7_14 rfl rfl rfl ?_
      refine g_iloadN X23 K (q := 16) d7_15 rfl rfl ?_
      refine g_aald X23 K (q := 17) (v := (.ref (ad6 Z a0))) e23 g1 rfl (by decide) rfl d7_16 rfl ?_
      refine g_astore X23 K (q := 19) (L' := #[.val (.ref a1), .val (.ref bx1), .val (.int (6 : Int32)), .val (.int (5 : Int32)), .val (.ref (ad6 Z a0))]) d7_17 rfl rfl rfl ?_
      refine g_aload X23 K (q := 21) d7_19 rfl rfl rfl ?_
      refine g_getf X23 K (q := 24) (w57 H) Via.refl e23 ((f6_symbol H).ext Ol1.2) d7_21 rfl ?_
      intro T24 X24 e24
      refine g_aloadN X24 K (q := 25) d7_24 rfl rfl rfl ?_
      refine g_virtual X24 K (q := 28) (W := 0) (a := (ad12 Z a0)) (w59 H) (w60 H) (nf_self K (w62 H)) (w62 H) (w61 H) (w9 H) (w63 H) (by decide) (rm9_82 l H a1 a2 p1 p2 k1 T1.heap Ol1 ge_1 f1 f2 f3 f4 hc_1) e24 ((x12 H).ext Ol1.2) rfl (argsL := [(.ref a1)]) (rest := []) (lenOf pd_7 rfl) rfl rfl (Nat.le_of_eq rfl) d7_25 (by decide) (by decide) (by decide) (by decide) rfl ?_
      rintro T25 v25 L25 X25 (⟨hc11, rfl, N25q, e25⟩ | ⟨hc12, rfl, N25q, e25⟩)
      · have N25 := Fr.app N23 N25q
        show Go p e below _ T25 (mkF m 28 #[.val (.ref a1), .val (.ref bx1), .val (.int (6 : Int32)), .val (.int (5 : Int32)), .val (.ref (ad6 Z a0))] [(.int (0 : Int32))])
        refine g_ifY X25 K (q := 34) d7_28 (by decide) (by decide) (by decide) ?_
        refine g_iinc X25 K (q := 37) (z := (6 : Int32)) (L' := #[.val (.ref a1), .val (.ref bx1), .val (.int (6 : Int32)), .val (.int (6 : Int32)), .val (.ref (ad6 Z a0))]) d7_34 rfl (by decide) rfl rfl ?_
        refine g_goto X25 K (q := 9) d7_37 (by decide) (by decide) ?_
        refine g_iloadN X25 K (q := 10) d7_9 rfl rfl ?_
        refine g_iloadN X25 K (q := 11) d7_10 rfl rfl ?_
        refine g_icY X25 K (q := 40) d7_11 (by decide) (by decide) (by decide) ?_
        refine g_null X25 K (q := 41) d7_40 rfl ?_
        refine g_aret X25 K rfl rfl rfl d7_41 (by decide) (by decide) ?_
        have Kp : Keep h0 T25.heap [] := by rw [e25]; exact Kp1
        exact Or.inr (Or.inr (Or.inr (Or.inr (Or.inl (⟨hc2, hc9, hc11, rfl, N25, Kp⟩)))))
      · have N25 := Fr.app N23 N25q
        show Go p e below _ T25 (mkF m 28 #[.val (.ref a1), .val (.ref bx1), .val (.int (6 : Int32)), .val (.int (5 : Int32)), .val (.ref (ad6 Z a0))] [(.int (0 : Int32))])
        refine g_ifY X25 K (q := 34) d7_28 (by decide) (by decide) (by decide) ?_
        refine g_iinc X25 K (q := 37) (z := (6 : Int32)) (L' := #[.val (.ref a1), .val (.ref bx1), .val (.int (6 : Int32)), .val (.int (6 : Int32)), .val (.ref (ad6 Z a0))]) d7_34 rfl (by decide) rfl rfl ?_
        refine g_goto X25 K (q := 9) d7_37 (by decide) (by decide) ?_
        refine g_iloadN X25 K (q := 10) d7_9 rfl rfl ?_
        refine g_iloadN X25 K (q := 11) d7_10 rfl rfl ?_
        refine g_icY X25 K (q := 40) d7_11 (by decide) (by decide) (by decide) ?_
        refine g_null X25 K (q := 41) d7_40 rfl ?_
        refine g_aret X25 K rfl rfl rfl d7_41 (by decide) (by decide) ?_
        have Kp : Keep h0 T25.heap [] := by rw [e25]; exact Kp1
        exact Or.inr (Or.inr (Or.inr (Or.inr (Or.inr (Or.inl (⟨hc2, hc9, hc12, rfl, N25, Kp⟩))))))
    · have N21 := Fr.app N19 N21q
      show Go p e below _ T21 (mkF m 28 #[.val (.ref a1), .val (.ref bx1), .val (.int (6 : Int32)), .val (.int (3 : Int32)), .val (.ref (ad4 Z a0))] [(.int (0 : Int32))])
      refine g_ifY X21 K (q := 34) d7_28 (by decide) (by decide) (by decide) ?_
      refine g_iinc X21 K (q := 37) (z := (4 : Int32)) (L' := #[.val (.ref a1), .val (.ref bx1), .val (.int (6 : Int32)), .val (.int (4 : Int32)), .val (.ref (ad4 Z a0))]) d7_34 rfl (by decide) rfl rfl ?_
      refine g_goto X21 K (q := 9) d7_37 (by decide) (by decide) ?_
      refine g_iloadN X21 K (q := 10) d7_9 rfl rfl ?_
      refine g_iloadN X21 K (q := 11) d7_10 rfl rfl ?_
      refine g_icN X21 K (q := 14) d7_11 (by decide) rfl ?_
      refine g_aloadN X21 K (q := 15) d7_14 rfl rfl rfl ?_
      refine g_iloadN X21 K (q := 16) d7_15 rfl rfl ?_
      refine g_aald X21 K (q := 17) (v := (.ref (ad5 Z a0))) e21 g1 rfl (by decide) rfl d7_16 rfl ?_
      refine g_astore X21 K (q := 19) (L' := #[.val (.ref a1), .val (.ref bx1), .val (.int (6 : Int32)), .val (.int (4 : Int32)), .val (.ref (ad5 Z a0))]) d7_17 rfl rfl rfl ?_
      refine g_aload X21 K (q := 21) d7_19 rfl rfl rfl ?_
      refine g_getf X21 K (q := 24) (w57 H) Via.refl e21 ((f5_symbol H).ext Ol1.2) d7_21 rfl ?_
      intro T26 X26 e26
      refine g_aloadN X26 K (q := 25) d7_24 rfl rfl rfl ?_
      refine g_virtual X26 K (q := 28) (W := 0) (a := (ad11 Z a0)) (w59 H) (w60 H) (nf_self K (w62 H)) (w62 H) (w61 H) (w9 H) (w63 H) (by decide) (rm9_70 l H a1 a2 p1 p2 k1 T1.heap Ol1 ge_1 f1 f2 f3 f4) e26 ((x11 H).ext Ol1.2) rfl (argsL := [(.ref a1)]) (rest := []) (lenOf pd_7 rfl) rfl rfl (Nat.le_of_eq rfl) d7_25 (by decide) (by decide) (by decide) (by decide) rfl ?_
      rintro T27 v27 L27 X27 ⟨rfl, N27q, e27⟩
      have N27 := Fr.app N21 N27q
      show Go p e below _ T27 (mkF m 28 #[.val (.ref a1), .val (.ref bx1), .val (.int (6 : Int32)), .val (.int (4 : Int32)), .val (.ref (ad5 Z a0))] [(.int (0 : Int32))])
      refine g_ifY X27 K (q := 34) d7_28 (by decide) (by decide) (by decide) ?_
      refine g_iinc X27 K (q := 37) (z := (5 : Int32)) (L' := #[.val (.ref a1), .val (.ref bx1), .val (.int (6 : Int32)), .val (.int (5 : Int32)), .val (.ref (ad5 Z a0))]) d7_34 rfl (by decide) rfl rfl ?_
      refine g_goto X27 K (q := 9) d7_37 (by decide) (by decide) ?_
      refine g_iloadN X27 K (q := 10) d7_9 rfl rfl ?_
      refine g_iloadN X27 K (q := 11) d7_10 rfl rfl ?_
      refine g_icN X27 K (q := 14) d7_11 (by decide) rfl ?_
      refine g_aloadN X27 K (q := 15) d7_14 rfl rfl rfl ?_
      refine g_iloadN X27 K (q := 16) d7_15 rfl rfl ?_
      refine g_aald X27 K (q := 17) (v := (.ref (ad6 Z a0))) e27 g1 rfl (by decide) rfl d7_16 rfl ?_
      refine g_astore X27 K (q := 19) (L' := #[.val (.ref a1), .val (.ref bx1), .val (.int (6 : Int32)), .val (.int (5 : Int32)), .val (.ref (ad6 Z a0))]) d7_17 rfl rfl rfl ?_
      refine g_aload X27 K (q := 21) d7_19 rfl rfl rfl ?_
      refine g_getf X27 K (q := 24) (w57 H) Via.refl e27 ((f6_symbol H).ext Ol1.2) d7_21 rfl ?_
      intro T28 X28 e28
      refine g_aloadN X28 K (q := 25) d7_24 rfl rfl rfl ?_
      refine g_virtual X28 K (q := 28) (W := 0) (a := (ad12 Z a0)) (w59 H) (w60 H) (nf_self K (w62 H)) (w62 H) (w61 H) (w9 H) (w63 H) (by decide) (rm9_82 l H a1 a2 p1 p2 k1 T1.heap Ol1 ge_1 f1 f2 f3 f4 hc_1) e28 ((x12 H).ext Ol1.2) rfl (argsL := [(.ref a1)]) (rest := []) (lenOf pd_7 rfl) rfl rfl (Nat.le_of_eq rfl) d7_25 (by decide) (by decide) (by decide) (by decide) rfl ?_
      rintro T29 v29 L29 X29 (⟨hc13, rfl, N29q, e29⟩ | ⟨hc14, rfl, N29q, e29⟩)
      · have N29 := Fr.app N27 N29q
        show Go p e below _ T29 (mkF m 28 #[.val (.ref a1), .val (.ref bx1), .val (.int (6 : Int32)), .val (.int (5 : Int32)), .val (.ref (ad6 Z a0))] [(.int (0 : Int32))])
        refine g_ifY X29 K (q := 34) d7_28 (by decide) (by decide) (by decide) ?_
        refine g_iinc X29 K (q := 37) (z := (6 : Int32)) (L' := #[.val (.ref a1), .val (.ref bx1), .val (.int (6 : Int32)), .val (.int (6 : Int32)), .val (.ref (ad6 Z a0))]) d7_34 rfl (by decide) rfl rfl ?_
        refine g_goto X29 K (q := 9) d7_37 (by decide) (by decide) ?_
        refine g_iloadN X29 K (q := 10) d7_9 rfl rfl ?_
        refine g_iloadN X29 K (q := 11) d7_10 rfl rfl ?_
        refine g_icY X29 K (q := 40) d7_11 (by decide) (by decide) (by decide) ?_
        refine g_null X29 K (q := 41) d7_40 rfl ?_
        refine g_aret X29 K rfl rfl rfl d7_41 (by decide) (by decide) ?_
        have Kp : Keep h0 T29.heap [] := by rw [e29]; exact Kp1
        exact Or.inr (Or.inr (Or.inr (Or.inr (Or.inr (Or.inr (Or.inl (⟨hc2, hc10, hc13, rfl, N29, Kp⟩)))))))
      · have N29 := Fr.app N27 N29q
        show Go p e below _ T29 (mkF m 28 #[.val (.ref a1), .val (.ref bx1), .val (.int (6 : Int32)), .val (.int (5 : Int32)), .val (.ref (ad6 Z a0))] [(.int (0 : Int32))])
        refine g_ifY X29 K (q := 34) d7_28 (by decide) (by decide) (by decide) ?_
        refine g_iinc X29 K (q := 37) (z := (6 : Int32)) (L' := #[.val (.ref a1), .val (.ref bx1), .val (.int (6 : Int32)), .val (.int (6 : Int32)), .val (.ref (ad6 Z a0))]) d7_34 rfl (by decide) rfl rfl ?_
        refine g_goto X29 K (q := 9) d7_37 (by decide) (by decide) ?_
        refine g_iloadN X29 K (q := 10) d7_9 rfl rfl ?_
        refine g_iloadN X29 K (q := 11) d7_10 rfl rfl ?_
        refine g_icY X29 K (q := 40) d7_11 (by decide) (by decide) (by decide) ?_
        refine g_null X29 K (q := 41) d7_40 rfl ?_
        refine g_aret X29 K rfl rfl rfl d7_41 (by decide) (by decide) ?_
        have Kp : Keep h0 T29.heap [] := by rw [e29]; exact Kp1
        exact Or.inr (Or.inr (Or.inr (Or.inr (Or.inr (Or.inr (Or.inr (⟨hc2, hc10, hc14, rfl, N29, Kp⟩)))))))
set_option maxRecDepth 65536 in
set_option maxHeartbeats 40000000 in
theorem rm12_84 (l : Launch) {Z : State} {a0 : Array Value} (H : Hyp Z a0) (a1 : Addr) (a2 : Addr) (p1 : Int32) (p2 : Int32) (p3 : Int32) (k1 : ClassId) (k2 : ClassId) (h0 : Heap) (Ol : Old Z Z.heap.size h0) (A_1 : Arv Z h0 a1 k1 .char (3 : Int32) [(.int p1), (.int p2), (.int p3)] (.int (0 : Int32))) (hc_1 : ¬ ((255 : Int32) < p1)) (A_2 : Arv Z h0 a2 k2 .byte (3 : Int32) [(.int (0 : Int32)), (.int (0 : Int32)), (.int (0 : Int32))] (.int (0 : Int32))) (ge_1 : Z.heap.size ≤ a2) (hc_2 : ¬ ((255 : Int32) < p2)) (hc_3 : ¬ ((255 : Int32) < p3)) (ne_1 : a1 ≠ a2) :
    Mt l Z (⟨"java/lang/StringUTF16", "compress", "([CI[BII)I"⟩ : MethodName) jdk_52_method_21_code 7 (some .int) [] ({ frames := 0, cells := 0, slots := 0, locals := 0 } : Room) #[(.ref a1), (.int (0 : Int32)), (.ref a2), (.int (0 : Int32)), (.int (3 : Int32))] h0 (fun v h L => (v = some (.int (3 : Int32)) ∧ Fr Z.heap.size L ∧ Keep h0 h [a2] ∧ Arv Z h a2 k2 .byte (3 : Int32) [(.int p1.toInt8.toInt32), (.int p2.toInt8.toInt32), (.int p3.toInt8.toInt32)] (.int (0 : Int32)))) := by
  refine g_body (plainFor_of_name pn_java_lang_StringUTF16) ?_
  intro p e s m below meth c T0 K X0 e0
  refine g_entry (ef_18 m a1 a2) ?_
  have nw_a1 : a1 ∉ [a2] := (ninS ne_1 nin0)
  have Ol0 := Ol
  refine g_iconst X0 K (q := 1) (v := (0 : Int32)) d12_0 (by decide) rfl ?_
  refine g_istore X0 K (q := 3) (L' := #[.val (.ref a1), .val (.int (0 : Int32)), .val (.ref a2), .val (.int (0 : Int32)), .val (.int (3 : Int32)), .val (.int (0 : Int32)), .unset]) d12_1 rfl rfl ?_
  refine g_iload X0 K (q := 5) d12_3 rfl rfl ?_
  refine g_iload X0 K (q := 7) d12_5 rfl rfl ?_
  refine g_icN X0 K (q := 10) d12_7 (by decide) rfl ?_
  refine g_aloadN X0 K (q := 11) d12_10 rfl rfl rfl ?_
  refine g_iloadN X0 K (q := 12) d12_11 rfl rfl ?_
  refine g_cald X0 K (q := 13) (v := (.int p1)) e0 A_1 (by decide) rfl d12_12 rfl ?_
  refine g_istore X0 K (q := 15) (L' := #[.val (.ref a1), .val (.int (0 : Int32)), .val (.ref a2), .val (.int (0 : Int32)), .val (.int (3 : Int32)), .val (.int (0 : Int32)), .val (.int p1)]) d12_13 rfl rfl ?_
  refine g_iload X0 K (q := 17) d12_15 rfl rfl ?_
  refine g_sipush X0 K (q := 20) (v := (255 : Int32)) d12_17 (by decide) rfl ?_
  refine g_icY X0 K (q := 26) d12_20 (flt hc_1).2.2.2 (by decide) (by decide) ?_
  refine g_aloadN X0 K (q := 27) d12_26 rfl rfl rfl ?_
  refine g_iloadN X0 K (q := 28) d12_27 rfl rfl ?_
  refine g_iload X0 K (q := 30) d12_28 rfl rfl ?_
  refine g_i2b X0 K (q := 31) d12_30 rfl rfl ?_
  refine g_bast X0 K (q := 32) (z := p1.toInt8.toInt32) (vs' := [(.int p1.toInt8.toInt32), (.int (0 : Int32)), (.int (0 : Int32))]) e0 A_2 (by decide) (Nat.le_of_ble_eq_true rfl) (nar_byte _) rfl d12_31 rfl ?_
  intro T1 h1 X1 e1 W1 F1
  obtain ⟨N1, Ol1, Kp1⟩ := ivW (Fr.nil _) Ol0 (Keep.refl h0 [a2]) X1 W1 ge_1 (Or.inl (List.mem_of_getElem? (i := 0) rfl))
  refine g_iinc X1 K (q := 35) (z := (1 : Int32)) (L' := #[.val (.ref a1), .val (.int (1 : Int32)), .val (.ref a2), .val (.int (0 : Int32)), .val (.int (3 : Int32)), .val (.int (0 : Int32)), .val (.int p1)]) d12_32 rfl (by decide) rfl rfl ?_
  refine g_iinc X1 K (q := 38) (z := (1 : Int32)) (L' := #[.val (.ref a1), .val (.int (1 : Int32)), .val (.ref a2), .val (.int (1 : Int32)), .val (.int (3 : Int32)), .val (.int (0 : Int32)), .val (.int p1)]) d12_35 rfl (by decide) rfl rfl ?_
  refine g_iinc X1 K (q := 41) (z := (1 : Int32)) (L' := #[.val (.ref a1), .val (.int (1 : Int32)), .val (.ref a2), .val (.int (1 : Int32)), .val (.int (3 : Int32)), .val (.int (1 : Int32)), .val (.int p1)]) d12_38 rfl (by decide) rfl rfl ?_
  refine g_goto X1 K (q := 3) d12_41 (by decide) (by decide) ?_
  refine g_iload X1 K (q := 5) d12_3 rfl rfl ?_
  refine g_iload X1 K (q := 7) d12_5 rfl rfl ?_
  refine g_icN X1 K (q := 10) d12_7 (by decide) rfl ?_
  refine g_aloadN X1 K (q := 11) d12_10 rfl rfl rfl ?_
  refine g_iloadN X1 K (q := 12) d12_11 rfl rfl ?_
  have f1 := A_1.keep Kp1 nw_a1
  refine g_cald X1 K (q := 13) (v := (.int p2)) e1 f1 (by decide) rfl d12_12 rfl ?_
  refine g_istore X1 K (q := 15) (L' := #[.val (.ref a1), .val (.int (1 : Int32)), .val (.ref a2), .val (.int (1 : Int32)), .val (.int (3 : Int32)), .val (.int (1 : Int32)), .val (.int p2)]) d12_13 rfl rfl ?_
  refine g_iload X1 K (q := 17) d12_15 rfl rfl ?_
  refine g_sipush X1 K (q := 20) (v := (255 : Int32)) d12_17 (by decide) rfl ?_
  refine g_icY X1 K (q := 26) d12_20 (flt hc_2).2.2.2 (by decide) (by decide) ?_
  refine g_aloadN X1 K (q := 27) d12_26 rfl rfl rfl ?_
  refine g_iloadN X1 K (q := 28) d12_27 rfl rfl ?_
  refine g_iload X1 K (q := 30) d12_28 rfl rfl ?_
  refine g_i2b X1 K (q := 31) d12_30 rfl rfl ?_
  refine g_bast X1 K (q := 32) (z := p2.toInt8.toInt32) (vs' := [(.int p1.toInt8.toInt32), (.int p2.toInt8.toInt32), (.int (0 : Int32))]) e1 F1 (by decide) (Nat.le_of_ble_eq_true rfl) (nar_byte _) rfl d12_31 rfl ?_
  intro T2 h2 X2 e2 W2 F2
  obtain ⟨N2, Ol2, Kp2⟩ := ivW N1 Ol1 Kp1 X2 W2 ge_1 (Or.inl (List.mem_of_getElem? (i := 0) rfl))
  refine g_iinc X2 K (q := 35) (z := (2 : Int32)) (L' := #[.val (.ref a1), .val (.int (2 : Int32)), .val (.ref a2), .val (.int (1 : Int32)), .val (.int (3 : Int32)), .val (.int (1 : Int32)), .val (.int p2)]) d12_32 rfl (by decide) rfl rfl ?_
  refine g_iinc X2 K (q := 38) (z := (2 : Int32)) (L' := #[.val (.ref a1), .val (.int (2 : Int32)), .val (.ref a2), .val (.int (2 : Int32)), .val (.int (3 : Int32)), .val (.int (1 : Int32)), .val (.int p2)]) d12_35 rfl (by decide) rfl rfl ?_
  refine g_iinc X2 K (q := 41) (z := (2 : Int32)) (L' := #[.val (.ref a1), .val (.int (2 : Int32)), .val (.ref a2), .val (.int (2 : Int32)), .val (.int (3 : Int32)), .val (.int (2 : Int32)), .val (.int p2)]) d12_38 rfl (by decide) rfl rfl ?_
  refine g_goto X2 K (q := 3) d12_41 (by decide) (by decide) ?_
  refine g_iload X2 K (q := 5) d12_3 rfl rfl ?_
  refine g_iload X2 K (q := 7) d12_5 rfl rfl ?_
  refine g_icN X2 K (q := 10) d12_7 (by decide) rfl ?_
  refine g_aloadN X2 K (q := 11) d12_10 rfl rfl rfl ?_
  refine g_iloadN X2 K (q := 12) d12_11 rfl rfl ?_
  have f2 := A_1.keep Kp2 nw_a1
  refine g_cald X2 K (q := 13) (v := (.int p3)) e2 f2 (by decide) rfl d12_12 rfl ?_
  refine g_istore X2 K (q := 15) (L' := #[.val (.ref a1), .val (.int (2 : Int32)), .val (.ref a2), .val (.int (2 : Int32)), .val (.int (3 : Int32)), .val (.int (2 : Int32)), .val (.int p3)]) d12_13 rfl rfl ?_
  refine g_iload X2 K (q := 17) d12_15 rfl rfl ?_
  refine g_sipush X2 K (q := 20) (v := (255 : Int32)) d12_17 (by decide) rfl ?_
  refine g_icY X2 K (q := 26) d12_20 (flt hc_3).2.2.2 (by decide) (by decide) ?_
  refine g_aloadN X2 K (q := 27) d12_26 rfl rfl rfl ?_
  refine g_iloadN X2 K (q := 28) d12_27 rfl rfl ?_
  refine g_iload X2 K (q := 30) d12_28 rfl rfl ?_
  refine g_i2b X2 K (q := 31) d12_30 rfl rfl ?_
  refine g_bast X2 K (q := 32) (z := p3.toInt8.toInt32) (vs' := [(.int p1.toInt8.toInt32), (.int p2.toInt8.toInt32), (.int p3.toInt8.toInt32)]) e2 F2 (by decide) (Nat.le_of_ble_eq_true rfl) (nar_byte _) rfl d12_31 rfl ?_
  intro T3 h3 X3 e3 W3 F3
  obtain ⟨N3, Ol3, Kp3⟩ := ivW N2 Ol2 Kp2 X3 W3 ge_1 (Or.inl (List.mem_of_getElem? (i := 0) rfl))
  refine g_iinc X3 K (q := 35) (z := (3 : Int32)) (L' := #[.val (.ref a1), .val (.int (3 : Int32)), .val (.ref a2), .val (.int (2 : Int32)), .val (.int (3 : Int32)), .val (.int (2 : Int32)), .val (.int p3)]) d12_32 rfl (by decide) rfl rfl ?_
  refine g_iinc X3 K (q := 38) (z := (3 : Int32)) (L' := #[.val (.ref a1), .val (.int (3 : Int32)), .val (.ref a2), .val (.int (3 : Int32)), .val (.int (3 : Int32)), .val (.int (2 : Int32)), .val (.int p3)]) d12_35 rfl (by decide) rfl rfl ?_
  refine g_iinc X3 K (q := 41) (z := (3 : Int32)) (L' := #[.val (.ref a1), .val (.int (3 : Int32)), .val (.ref a2), .val (.int (3 : Int32)), .val (.int (3 : Int32)), .val (.int (3 : Int32)), .val (.int p3)]) d12_38 rfl (by decide) rfl rfl ?_
  refine g_goto X3 K (q := 3) d12_41 (by decide) (by decide) ?_
  refine g_iload X3 K (q := 5) d12_3 rfl rfl ?_
  refine g_iload X3 K (q := 7) d12_5 rfl rfl ?_
  refine g_icY X3 K (q := 44) d12_7 (by decide) (by decide) (by decide) ?_
  refine g_iload X3 K (q := 46) d12_44 rfl rfl ?_
  refine g_iret X3 K d12_46 (by decide) (by decide) ?_
  have Kp : Keep h0 T3.heap [a2] := by rw [e3]; exact Kp3
  exact ⟨rfl, N3, Kp, (by rw [e3]; exact F3)⟩
set_option maxRecDepth 65536 in
set_option maxHeartbeats 40000000 in
theorem rm11_85 (l : Launch) {Z : State} {a0 : Array Value} (H : Hyp Z a0) (a1 : Addr) (p1 : Int32) (p2 : Int32) (p3 : Int32) (k1 : ClassId) (h0 : Heap) (Ol : Old Z Z.heap.size h0) (A_1 : Arv Z h0 a1 k1 .char (3 : Int32) [(.int p1), (.int p2), (.int p3)] (.int (0 : Int32))) (hc_1 : ¬ ((255 : Int32) < p1)) (hc_2 : ¬ ((255 : Int32) < p2)) (hc_3 : ¬ ((255 : Int32) < p3)) :
    Mt l Z (⟨"java/lang/StringUTF16", "compress", "([CII)[B"⟩ : MethodName) jdk_52_method_16_code 6 (some (.array .byte)) [] ({ frames := 1, cells := 1, slots := 3, locals := 18 } : Room) #[(.ref a1), (.int (0 : Int32)), (.int (3 : Int32))] h0 (fun v h L => (∃ (b1 : Addr), ∃ (kA1 : ClassId), v = some (.ref b1) ∧ Fr Z.heap.size L ∧ Keep h0 h [] ∧ h0.size ≤ b1 ∧ Arv Z h b1 kA1 .byte (3 : Int32) [(.int p1.toInt8.toInt32), (.int p2.toInt8.toInt32), (.int p3.toInt8.toInt32)] (.int (0 : Int32)))) := by
  refine g_body (plainFor_of_name pn_java_lang_StringUTF16) ?_
  intro p e s m below meth c T0 K X0 e0
  refine g_entry (ef_19 m a1) ?_
  have nw_a1 : a1 ∉ [] := nin0
  have Ol0 := Ol
  refine g_iloadN X0 K (q := 1) d11_0 rfl rfl ?_
  refine g_newp X0 K (q := 3) (cap := 3) (ty := .byte) (vs := [(.int (0 : Int32)), (.int (0 : Int32)), (.int (0 : Int32))]) (w22 H) rfl e0 d11_1 (by decide) (by decide) rfl (by decide) (by decide) (by decide) rfl ?_
  intro T1 h1 b1 kA1 X1 e1 E1 z1 A1
  obtain ⟨sz1, ge1, Ol1, Kp1⟩ := ivE Ol0 (Keep.refl h0 []) E1 z1
  have so1 := Sd.one b1
  refine g_astoreN X1 K (q := 4) (L' := #[.val (.ref a1), .val (.int (0 : Int32)), .val (.int (3 : Int32)), .val (.ref b1), .unset, .unset]) d11_3 rfl rfl rfl ?_
  refine g_aloadN X1 K (q := 5) d11_4 rfl rfl rfl ?_
  refine g_iloadN X1 K (q := 6) d11_5 rfl rfl ?_
  refine g_aloadN X1 K (q := 7) d11_6 rfl rfl rfl ?_
  refine g_iconst X1 K (q := 8) (v := (0 : Int32)) d11_7 (by decide) rfl ?_
  refine g_iloadN X1 K (q := 9) d11_8 rfl rfl ?_
  have f1 := A_1.keep Kp1 nw_a1
  have ne1 : a1 ≠ b1 := (Nat.ne_of_lt (Nat.lt_of_lt_of_le A_1.lt sz1))
  refine g_static X1 K (q := 12) (W := 0) (w74 H) (w75 H) (w72 H) (w76 H) (by decide) (rm12_84 l H a1 b1 p1 p2 p3 k1 kA1 h1 Ol1 f1 hc_1 A1 ge1 hc_2 hc_3 ne1) e1 rfl (argsL := [(.ref a1), (.int (0 : Int32)), (.ref b1), (.int (0 : Int32)), (.int (3 : Int32))]) (rest := []) (lenOf pd_13 rfl) rfl rfl (Nat.le_of_eq rfl) d11_9 (by decide) (by decide) (by decide) (by decide) rfl ?_
  rintro T2 v2 L2 X2 ⟨rfl, N2q, Kc2, g1⟩
  obtain ⟨N2, Ol2, Kp2⟩ := ivK (Fr.nil _) Ol1 Kp1 N2q Kc2 (allS ge1 all0) (kaS (Or.inr sz1) all0)
  show Go p e below _ T2 (mkF m 12 #[.val (.ref a1), .val (.int (0 : Int32)), .val (.int (3 : Int32)), .val (.ref b1), .unset, .unset] [(.int (3 : Int32))])
  refine g_istore X2 K (q := 14) (L' := #[.val (.ref a1), .val (.int (0 : Int32)), .val (.int (3 : Int32)), .val (.ref b1), .val (.int (3 : Int32)), .unset]) d11_12 rfl rfl ?_
  refine g_iload X2 K (q := 16) d11_14 rfl rfl ?_
  refine g_iloadN X2 K (q := 17) d11_16 rfl rfl ?_
  refine g_icY X2 K (q := 57) d11_17 (by decide) (by decide) (by decide) ?_
  refine g_aloadN X2 K (q := 58) d11_57 rfl rfl rfl ?_
  refine g_aret X2 K rfl rfl rfl d11_58 (by decide) (by decide) ?_
  exact ⟨b1, kA1, rfl, N2, Kp2, sz1, g1⟩
set_option maxRecDepth 65536 in
set_option maxHeartbeats 40000000 in
theorem rm13_86 (l : Launch) {Z : State} {a0 : Array Value} (H : Hyp Z a0) (a1 : Addr) (p1 : Int32) (p2 : Int32) (p3 : Int32) (k1 : ClassId) (h0 : Heap) (Ol : Old Z Z.heap.size h0) (A_1 : Arv Z h0 a1 k1 .byte (3 : Int32) [(.int p1), (.int p2), (.int p3)] (.int (0 : Int32))) :
    Mt l Z (⟨"java/lang/StringUTF16", "coderFromArrayLen", "([BI)B"⟩ : MethodName) jdk_52_method_15_code 2 (some .byte) [] ({ frames := 0, cells := 0, slots := 0, locals := 0 } : Room) #[(.ref a1), (.int (3 : Int32))] h0 (fun v h L => (v = some (.int (0 : Int32)) ∧ Fr Z.heap.size L ∧ h = h0)) := by
  refine g_body (plainFor_of_name pn_java_lang_StringUTF16) ?_
  intro p e s m below meth c T0 K X0 e0
  refine g_entry (ef_20 m a1) ?_
  have Ol0 := Ol
  refine g_iloadN X0 K (q := 1) d13_0 rfl rfl ?_
  refine g_aloadN X0 K (q := 2) d13_1 rfl rfl rfl ?_
  refine g_len X0 K (q := 3) e0 A_1 d13_2 rfl ?_
  refine g_isub X0 K (q := 4) d13_3 (z := (0 : Int32)) (by decide) rfl ?_
  refine g_bipush X0 K (q := 6) (v := (31 : Int32)) d13_4 (by decide) rfl ?_
  refine g_iushr X0 K (q := 7) d13_6 (z := (0 : Int32)) (by decide) rfl ?_
  refine g_i2b X0 K (q := 8) d13_7 (z := (0 : Int32)) (by decide) rfl ?_
  refine g_nret X0 K (by simp) (z' := (0 : Int32)) (by decide) d13_8 (by decide) (by decide) ?_
  exact ⟨rfl, (Fr.nil _), e0⟩
set_option maxRecDepth 65536 in
set_option maxHeartbeats 40000000 in
theorem rm4_87 (l : Launch) {Z : State} {a0 : Array Value} (H : Hyp Z a0) (a1 : Addr) (a2 : Addr) (p1 : Int32) (p2 : Int32) (p3 : Int32) (k1 : ClassId) (h0 : Heap) (Ol : Old Z Z.heap.size h0) (A_1 : Arv Z h0 a2 k1 .char (3 : Int32) [(.int p1), (.int p2), (.int p3)] (.int (0 : Int32))) (hc_1 : ¬ ((255 : Int32) < p1)) (hc_2 : ¬ ((255 : Int32) < p2)) (hc_3 : ¬ ((255 : Int32) < p3)) (E_1 : Exa Z h0 a1 "java/lang/String") (F_1 : Fld Z h0 a1 "java/lang/String" "value" "[B" .null) (F_2 : Fld Z h0 a1 "java/lang/String" "coder" "B" (.int (0 : Int32))) (ge_1 : Z.heap.size ≤ a1) :
    Mt l Z (⟨"java/lang/String", "<init>", "([CIILjava/lang/Void;)V"⟩ : MethodName) jdk_42_method_149_code 6 none [] ({ frames := 2, cells := 1, slots := 3, locals := 35 } : Room) #[(.ref a1), (.ref a2), (.int (0 : Int32)), (.int (3 : Int32)), .null] h0 (fun v h L => (∃ (bx1 : Addr), ∃ (kB1 : ClassId), v = none ∧ Fr Z.heap.size L ∧ Keep h0 h [a1] ∧ h0.size ≤ bx1 ∧ Exa Z h a1 "java/lang/String" ∧ Fld Z h a1 "java/lang/String" "value" "[B" (.ref bx1) ∧ Fld Z h a1 "java/lang/String" "coder" "B" (.int (0 : Int32)) ∧ Arv Z h bx1 kB1 .byte (3 : Int32) [(.int p1.toInt8.toInt32), (.int p2.toInt8.toInt32), (.int p3.toInt8.toInt32)] (.int (0 : Int32)))) := by
  refine g_body (plainFor_of_name pn_java_lang_String) ?_
  intro p e s m below meth c T0 K X0 e0
  refine g_entry (ef_21 m a1 a2) ?_
  have Ol0 := Ol
  refine g_aloadN X0 K (q := 1) d4_0 rfl rfl rfl ?_
  refine g_init X0 K (q := 4) (W := 0) (w18 H) (w19 H) (w20 H) e0 rfl d4_1 (by decide) (Nat.le_of_eq rfl) (by decide) rfl ?_
  intro T1 X1 e1
  refine g_iloadN X1 K (q := 5) d4_4 rfl rfl ?_
  refine g_ifY X1 K (q := 27) d4_5 (by decide) (by decide) (by decide) ?_
  refine g_gets X1 K (q := 30) (w65 H) e1 ((ivs0 H).ext Ol0.2) d4_27 rfl ?_
  intro T2 X2 e2
  refine g_ifN X2 K (q := 33) d4_30 (feq (ivn0 H)).1 rfl ?_
  refine g_aloadN X2 K (q := 34) d4_33 rfl rfl rfl ?_
  refine g_iloadN X2 K (q := 35) d4_34 rfl rfl ?_
  refine g_iloadN X2 K (q := 36) d4_35 rfl rfl ?_
  refine g_static X2 K (q := 39) (W := 0) (w70 H) (w71 H) (w72 H) (w73 H) (by decide) (rm11_85 l H a2 p1 p2 p3 k1 h0 Ol0 A_1 hc_1 hc_2 hc_3) e2 rfl (argsL := [(.ref a2), (.int (0 : Int32)), (.int (3 : Int32))]) (rest := []) (lenOf pd_14 rfl) rfl rfl (Nat.le_of_eq rfl) d4_36 (by decide) (by decide) (by decide) (by decide) rfl ?_
  rintro T3 v3 L3 X3 ⟨bx1, kB1, rfl, N3q, Kc3, lz3_0, g1⟩
  have szbx1 := Nat.le_trans (Keep.refl h0 [a1]).1 lz3_0
  have gebx1 := Nat.le_trans Ol0.2.1 lz3_0
  have so1 := Sd.one bx1
  obtain ⟨N3, Ol3, Kp3⟩ := ivK (Fr.nil _) Ol0 (Keep.refl h0 [a1]) N3q Kc3 all0 all0
  show Go p e below _ T3 (mkF m 39 #[.val (.ref a1), .val (.ref a2), .val (.int (0 : Int32)), .val (.int (3 : Int32)), .val .null, .unset] [(.ref bx1)])
  refine g_astore X3 K (q := 41) (L' := #[.val (.ref a1), .val (.ref a2), .val (.int (0 : Int32)), .val (.int (3 : Int32)), .val .null, .val (.ref bx1)]) d4_39 rfl rfl rfl ?_
  refine g_aloadN X3 K (q := 42) d4_41 rfl rfl rfl ?_
  refine g_aload X3 K (q := 44) d4_42 rfl rfl rfl ?_
  refine g_iloadN X3 K (q := 45) d4_44 rfl rfl ?_
  refine g_static X3 K (q := 48) (W := 1) (w77 H) (w78 H) (w72 H) (w79 H) (by decide) (rm13_86 l H bx1 p1.toInt8.toInt32 p2.toInt8.toInt32 p3.toInt8.toInt32 kB1 T3.heap Ol3 g1) rfl rfl (argsL := [(.ref bx1), (.int (3 : Int32))]) (rest := [(.ref a1)]) (lenOf pd_15 rfl) rfl rfl (Nat.le_of_eq rfl) d4_45 (by decide) (by decide) (by decide) (by decide) rfl ?_
  rintro T4 v4 L4 X4 ⟨rfl, N4q, e4⟩
  have N4 := Fr.app N3 N4q
  show Go p e below _ T4 (mkF m 48 #[.val (.ref a1), .val (.ref a2), .val (.int (0 : Int32)), .val (.int (3 : Int32)), .val .null, .val (.ref bx1)] [(.int (0 : Int32)), (.ref a1)])
  have f1 := (F_2.keep Kc3 nin0)
  have f2 := (E_1.keep Kc3)
  refine g_putf X4 K (q := 51) (w28 H) Via.refl e4 f1 f2 (Or.inr ⟨(w24 H), rfl, rfl⟩) (w8 H) (ty := .byte) (by decide) rfl rfl d4_48 rfl ?_
  intro T5 h5 X5 e5 W5 F5
  obtain ⟨N5, Ol5, Kp5⟩ := ivW N4 Ol3 Kp3 X5 W5 ge_1 (Or.inl (List.mem_of_getElem? (i := 0) rfl))
  refine g_aloadN X5 K (q := 52) d4_51 rfl rfl rfl ?_
  refine g_aload X5 K (q := 54) d4_52 rfl rfl rfl ?_
  have f3 := ((F_1.keep Kc3 nin0).other W5 (Or.inr (lne (la1 H) (la0 H) (by decide))))
  have f4 := (f2.wr W5)
  refine g_putf X5 K (q := 57) (w27 H) Via.refl e5 f3 f4 (Or.inr ⟨(w23 H), rfl, rfl⟩) (w8 H) (ty := (.array .byte)) (by decide) rfl rfl d4_54 rfl ?_
  intro T6 h6 X6 e6 W6 F6
  obtain ⟨N6, Ol6, Kp6⟩ := ivW N5 Ol5 Kp5 X6 W6 ge_1 (Or.inl (List.mem_of_getElem? (i := 0) rfl))
  refine g_ret X6 K d4_57 (by decide) (by decide) ?_
  have Kp : Keep h0 T6.heap [a1] := by rw [e6]; exact Kp6
  have f5 := (f4.wr W6)
  have f6 := (F5.other W6 (Or.inr (lne (la0 H) (la1 H) (by decide))))
  have ne1 : a1 ≠ bx1 := (Nat.ne_of_lt (Nat.lt_of_lt_of_le E_1.lt szbx1))
  have f7 := ((g1.other W5 (Ne.symm ne1)).other W6 (Ne.symm ne1))
  exact ⟨bx1, kB1, rfl, N6, Kp, szbx1, (by rw [e6]; exact f5), (by rw [e6]; exact F6), (by rw [e6]; exact f6), (by rw [e6]; exact f7)⟩
set_option maxRecDepth 65536 in
set_option maxHeartbeats 40000000 in
theorem rm3_88 (l : Launch) {Z : State} {a0 : Array Value} (H : Hyp Z a0) (a1 : Addr) (a2 : Addr) (p1 : Int32) (p2 : Int32) (p3 : Int32) (k1 : ClassId) (h0 : Heap) (Ol : Old Z Z.heap.size h0) (A_1 : Arv Z h0 a2 k1 .char (3 : Int32) [(.int p1), (.int p2), (.int p3)] (.int (0 : Int32))) (hc_1 : ¬ ((255 : Int32) < p1)) (hc_2 : ¬ ((255 : Int32) < p2)) (hc_3 : ¬ ((255 : Int32) < p3)) (F_1 : Fld Z h0 a1 "java/lang/String" "value" "[B" .null) (F_2 : Fld Z h0 a1 "java/lang/String" "coder" "B" (.int (0 : Int32))) (E_1 : Exa Z h0 a1 "java/lang/String") (ge_1 : Z.heap.size ≤ a1) :
    Mt l Z (⟨"java/lang/String", "<init>", "([C)V"⟩ : MethodName) jdk_42_method_3_code 2 none [] ({ frames := 3, cells := 1, slots := 3, locals := 52 } : Room) #[(.ref a1), (.ref a2)] h0 (fun v h L => (∃ (bx1 : Addr), ∃ (kB1 : ClassId), v = none ∧ Fr Z.heap.size L ∧ Keep h0 h [a1] ∧ h0.size ≤ bx1 ∧ Exa Z h a1 "java/lang/String" ∧ Fld Z h a1 "java/lang/String" "value" "[B" (.ref bx1) ∧ Fld Z h a1 "java/lang/String" "coder" "B" (.int (0 : Int32)) ∧ Arv Z h bx1 kB1 .byte (3 : Int32) [(.int p1.toInt8.toInt32), (.int p2.toInt8.toInt32), (.int p3.toInt8.toInt32)] (.int (0 : Int32)))) := by
  refine g_body (plainFor_of_name pn_java_lang_String) ?_
  intro p e s m below meth c T0 K X0 e0
  refine g_entry (ef_1 m a1 a2) ?_
  have Ol0 := Ol
  refine g_aloadN X0 K (q := 1) d3_0 rfl rfl rfl ?_
  refine g_aloadN X0 K (q := 2) d3_1 rfl rfl rfl ?_
  refine g_iconst X0 K (q := 3) (v := (0 : Int32)) d3_2 (by decide) rfl ?_
  refine g_aloadN X0 K (q := 4) d3_3 rfl rfl rfl ?_
  refine g_len X0 K (q := 5) e0 A_1 d3_4 rfl ?_
  refine g_null X0 K (q := 6) d3_5 rfl ?_
  refine g_special X0 K (q := 9) (W := 0) (a := a1) rfl (w14 H) (w15 H) (w9 H) (w17 H) (by decide) (rm4_87 l H a1 a2 p1 p2 p3 k1 h0 Ol0 A_1 hc_1 hc_2 hc_3 E_1 F_1 F_2 ge_1) e0 rfl (argsL := [(.ref a2), (.int (0 : Int32)), (.int (3 : Int32)), .null]) (rest := []) (lenOf pd_0 rfl) rfl rfl (Nat.le_of_eq rfl) d3_6 (by decide) (by decide) (by decide) (by decide) rfl ?_
  rintro T1 v1 L1 X1 ⟨bx1, kB1, rfl, N1q, Kc1, lz1_0, g1, g2, g3, g4⟩
  have szbx1 := Nat.le_trans (Keep.refl h0 [a1]).1 lz1_0
  have gebx1 := Nat.le_trans Ol0.2.1 lz1_0
  have so1 := Sd.one bx1
  obtain ⟨N1, Ol1, Kp1⟩ := ivK (Fr.nil _) Ol0 (Keep.refl h0 [a1]) N1q Kc1 (allS ge_1 all0) (kaS (Or.inl (List.mem_of_getElem? (i := 0) rfl)) all0)
  show Go p e below _ T1 (mkF m 9 #[.val (.ref a1), .val (.ref a2)] [])
  refine g_ret X1 K d3_9 (by decide) (by decide) ?_
  exact ⟨bx1, kB1, rfl, N1, Kp1, szbx1, g1, g2, g3, g4⟩
set_option maxRecDepth 65536 in
set_option maxHeartbeats 40000000 in
theorem rm2_89 (l : Launch) {Z : State} {a0 : Array Value} (H : Hyp Z a0) (p1 : Int32) (p2 : Int32) (p3 : Int32) (h0 : Heap) (Ol : Old Z Z.heap.size h0) (hc_1 : nar .char p1 = p1) (hc_2 : nar .char p2 = p2) (hc_3 : nar .char p3 = p3) (hc_4 : ¬ ((255 : Int32) < p1)) (hc_5 : ¬ ((255 : Int32) < p2)) (hc_6 : ¬ ((255 : Int32) < p3)) :
    Mt l Z (⟨"com/example/annotable/annotable/ComparisonOfPinLaw", "make", "(ICCC)Ljava/lang/String;"⟩ : MethodName) method_4_code 4 (some (.object "java/lang/String")) [] ({ frames := 4, cells := 3, slots := 10, locals := 66 } : Room) #[(.int (3 : Int32)), (.int p1), (.int p2), (.int p3)] h0 (fun v h L => (∃ (b1 : Addr), ∃ (bx1 : Addr), ∃ (kB1 : ClassId), v = some (.ref b1) ∧ Fr Z.heap.size L ∧ Keep h0 h [] ∧ h0.size ≤ b1 ∧ b1 < bx1 ∧ Exa Z h b1 "java/lang/String" ∧ Fld Z h b1 "java/lang/String" "value" "[B" (.ref bx1) ∧ Fld Z h b1 "java/lang/String" "coder" "B" (.int (0 : Int32)) ∧ Arv Z h bx1 kB1 .byte (3 : Int32) [(.int p1.toInt8.toInt32), (.int p2.toInt8.toInt32), (.int p3.toInt8.toInt32)] (.int (0 : Int32)))) := by
  refine g_body (plainFor_of_name pn_com_example_annotable_annotable_ComparisonOfPinLaw) ?_
  intro p e s m below meth c T0 K X0 e0
  refine g_entry (ef_22 m p1 p2 p3) ?_
  have Ol0 := Ol
  refine g_iloadN X0 K (q := 1) d2_0 rfl rfl ?_
  refine g_ifY X0 K (q := 15) d2_1 (by decide) (by decide) (by decide) ?_
  refine g_iloadN X0 K (q := 16) d2_15 rfl rfl ?_
  refine g_iconst X0 K (q := 17) (v := (1 : Int32)) d2_16 (by decide) rfl ?_
  refine g_icY X0 K (q := 25) d2_17 (by decide) (by decide) (by decide) ?_
  refine g_iloadN X0 K (q := 26) d2_25 rfl rfl ?_
  refine g_iconst X0 K (q := 27) (v := (2 : Int32)) d2_26 (by decide) rfl ?_
  refine g_icY X0 K (q := 49) d2_27 (by decide) (by decide) (by decide) ?_
  refine g_new X0 K (q := 52) (w7 H) (w8 H) (w9 H) e0 d2_49 (by decide) (by decide) rfl ?_
  intro T1 h1 b1 X1 e1 E1 z1 A1 D1
  obtain ⟨sz1, ge1, Ol1, Kp1⟩ := ivE Ol0 (Keep.refl h0 []) E1 z1
  have so1 := Sd.one b1
  have F1_value : Fld Z h1 b1 "java/lang/String" "value" "[B" .null := D1 (Or.inr (w23 H)) (ty := (.array .byte)) (by decide)
  have F1_coder : Fld Z h1 b1 "java/lang/String" "coder" "B" (.int (0 : Int32)) := D1 (Or.inr (w24 H)) (ty := .byte) (by decide)
  refine g_dup X1 K (q := 53) d2_52 rfl rfl ?_
  refine g_iconst X1 K (q := 54) (v := (3 : Int32)) d2_53 (by decide) rfl ?_
  refine g_newp X1 K (q := 56) (cap := 3) (ty := .char) (vs := [(.int (0 : Int32)), (.int (0 : Int32)), (.int (0 : Int32))]) (w10 H) rfl e1 d2_54 (by decide) (by decide) rfl (by decide) (by decide) (by decide) rfl ?_
  intro T2 h2 b2 kA2 X2 e2 E2 z2 A2
  obtain ⟨sz2, ge2, Ol2, Kp2⟩ := ivE Ol1 Kp1 E2 z2
  have lk2 := Nat.lt_of_lt_of_eq A1.lt z2
  have so2 := so1.cons lk2
  refine g_dup X2 K (q := 57) d2_56 rfl rfl ?_
  refine g_iconst X2 K (q := 58) (v := (0 : Int32)) d2_57 (by decide) rfl ?_
  refine g_iloadN X2 K (q := 59) d2_58 rfl rfl ?_
  refine g_cst X2 K (q := 60) (z := p1) (vs' := [(.int p1), (.int (0 : Int32)), (.int (0 : Int32))]) e2 A2 (by decide) (Nat.le_of_ble_eq_true rfl) hc_1 rfl d2_59 rfl ?_
  intro T3 h3 X3 e3 W3 F3
  obtain ⟨N3, Ol3, Kp3⟩ := ivW (Fr.nil _) Ol2 Kp2 X3 W3 ge2 (Or.inr sz2)
  refine g_dup X3 K (q := 61) d2_60 rfl rfl ?_
  refine g_iconst X3 K (q := 62) (v := (1 : Int32)) d2_61 (by decide) rfl ?_
  refine g_iloadN X3 K (q := 63) d2_62 rfl rfl ?_
  refine g_cst X3 K (q := 64) (z := p2) (vs' := [(.int p1), (.int p2), (.int (0 : Int32))]) e3 F3 (by decide) (Nat.le_of_ble_eq_true rfl) hc_2 rfl d2_63 rfl ?_
  intro T4 h4 X4 e4 W4 F4
  obtain ⟨N4, Ol4, Kp4⟩ := ivW N3 Ol3 Kp3 X4 W4 ge2 (Or.inr sz2)
  refine g_dup X4 K (q := 65) d2_64 rfl rfl ?_
  refine g_iconst X4 K (q := 66) (v := (2 : Int32)) d2_65 (by decide) rfl ?_
  refine g_iloadN X4 K (q := 67) d2_66 rfl rfl ?_
  refine g_cst X4 K (q := 68) (z := p3) (vs' := [(.int p1), (.int p2), (.int p3)]) e4 F4 (by decide) (Nat.le_of_ble_eq_true rfl) hc_3 rfl d2_67 rfl ?_
  intro T5 h5 X5 e5 W5 F5
  obtain ⟨N5, Ol5, Kp5⟩ := ivW N4 Ol4 Kp4 X5 W5 ge2 (Or.inr sz2)
  have ne1 := so2.ne 1 0 rfl rfl rfl
  have f1 := ((((F1_value.ext E2).other W3 (Or.inl ne1)).other W4 (Or.inl ne1)).other W5 (Or.inl ne1))
  have f2 := ((((F1_coder.ext E2).other W3 (Or.inl ne1)).other W4 (Or.inl ne1)).other W5 (Or.inl ne1))
  have f3 := ((((A1.ext E2).wr W3).wr W4).wr W5)
  refine g_special X5 K (q := 71) (W := 1) (a := b1) rfl (w11 H) (w12 H) (w9 H) (w13 H) (by decide) (rm3_88 l H b1 b2 p1 p2 p3 kA2 h5 Ol5 F5 hc_4 hc_5 hc_6 f1 f2 f3 ge1) e5 rfl (argsL := [(.ref b2)]) (rest := [(.ref b1)]) (lenOf pd_1 rfl) rfl rfl (Nat.le_of_eq rfl) d2_68 (by decide) (by decide) (by decide) (by decide) rfl ?_
  rintro T6 v6 L6 X6 ⟨bx1, kB1, rfl, N6q, Kc6, lz6_0, g1, g2, g3, g4⟩
  have szbx1 := Nat.le_trans Kp5.1 lz6_0
  have gebx1 := Nat.le_trans Ol5.2.1 lz6_0
  have lkbx1 : b2 < bx1 := Nat.lt_of_lt_of_le F5.lt lz6_0
  have so3 := so2.cons lkbx1
  obtain ⟨N6, Ol6, Kp6⟩ := ivK N5 Ol5 Kp5 N6q Kc6 (allS ge1 all0) (kaS (Or.inr sz1) all0)
  show Go p e below _ T6 (mkF m 71 #[.val (.int (3 : Int32)), .val (.int p1), .val (.int p2), .val (.int p3)] [(.ref b1)])
  refine g_aret X6 K rfl rfl rfl d2_71 (by decide) (by decide) ?_
  exact ⟨b1, bx1, kB1, rfl, N6, Kp6, sz1, (so3.lt 0 2 rfl rfl rfl), g1, g2, g3, g4⟩
set_option maxRecDepth 65536 in
set_option maxHeartbeats 40000000 in
theorem rm6_90 (l : Launch) {Z : State} {a0 : Array Value} (H : Hyp Z a0) (p1 : Int32) (p2 : Int32) (h0 : Heap) (Ol : Old Z Z.heap.size h0) :
    Mt l Z (⟨"com/example/annotable/annotable/ComparisonOfPinLaw", "expected", "(ICC)Lcom/example/annotable/annotable/PathQuery$Comparison;"⟩ : MethodName) method_5_code 3 (some (.object "com/example/annotable/annotable/PathQuery$Comparison")) [] ({ frames := 0, cells := 0, slots := 0, locals := 0 } : Room) #[(.int (3 : Int32)), (.int p1), (.int p2)] h0 (fun v h L => (v = some .null ∧ Fr Z.heap.size L ∧ h = h0)) := by
  refine g_body (plainFor_of_name pn_com_example_annotable_annotable_ComparisonOfPinLaw) ?_
  intro p e s m below meth c T0 K X0 e0
  refine g_entry (ef_23 m p1 p2) ?_
  have Ol0 := Ol
  refine g_iloadN X0 K (q := 1) d6_0 rfl rfl ?_
  refine g_iconst X0 K (q := 2) (v := (1 : Int32)) d6_1 (by decide) rfl ?_
  refine g_icY X0 K (q := 37) d6_2 (by decide) (by decide) (by decide) ?_
  refine g_iloadN X0 K (q := 38) d6_37 rfl rfl ?_
  refine g_iconst X0 K (q := 39) (v := (2 : Int32)) d6_38 (by decide) rfl ?_
  refine g_icY X0 K (q := 80) d6_39 (by decide) (by decide) (by decide) ?_
  refine g_null X0 K (q := 81) d6_80 rfl ?_
  refine g_aret X0 K rfl rfl rfl d6_81 (by decide) (by decide) ?_
  exact ⟨rfl, (Fr.nil _), e0⟩
set_option maxRecDepth 65536 in
set_option maxHeartbeats 40000000 in
theorem rm10_91 (l : Launch) {Z : State} {a0 : Array Value} (H : Hyp Z a0) (a1 : Addr) (p1 : Int32) (p2 : Int32) (p3 : Int32) (k1 : ClassId) (h0 : Heap) (Ol : Old Z Z.heap.size h0) (A_1 : Arv Z h0 a1 k1 .byte (3 : Int32) [(.int p1), (.int p2), (.int p3)] (.int (0 : Int32))) :
    Mt l Z (⟨"java/lang/StringLatin1", "equals", "([B[B)Z"⟩ : MethodName) jdk_43_method_13_code 3 (some .boolean) [] ({ frames := 0, cells := 0, slots := 0, locals := 0 } : Room) #[(.ref (ad13 Z a0)), (.ref a1)] h0 (fun v h L => (v = some (.int (0 : Int32)) ∧ Fr Z.heap.size L ∧ h = h0)) := by
  refine g_body (plainFor_of_name pn_java_lang_StringLatin1) ?_
  intro p e s m below meth c T0 K X0 e0
  refine g_entry (ef_6 m (ad13 Z a0) a1) ?_
  have Ol0 := Ol
  refine g_aloadN X0 K (q := 1) d10_0 rfl rfl rfl ?_
  refine g_len X0 K (q := 2) e0 ((v13 H).ext Ol0.2) d10_1 rfl ?_
  refine g_aloadN X0 K (q := 3) d10_2 rfl rfl rfl ?_
  refine g_len X0 K (q := 4) e0 A_1 d10_3 rfl ?_
  refine g_icY X0 K (q := 34) d10_4 (by decide) (by decide) (by decide) ?_
  refine g_iconst X0 K (q := 35) (v := (0 : Int32)) d10_34 (by decide) rfl ?_
  refine g_nret X0 K (by simp) (z' := (0 : Int32)) (by decide) d10_35 (by decide) (by decide) ?_
  exact ⟨rfl, (Fr.nil _), e0⟩
set_option maxRecDepth 65536 in
set_option maxHeartbeats 40000000 in
theorem rm9_92 (l : Launch) {Z : State} {a0 : Array Value} (H : Hyp Z a0) (a1 : Addr) (a2 : Addr) (p1 : Int32) (p2 : Int32) (p3 : Int32) (k1 : ClassId) (h0 : Heap) (Ol : Old Z Z.heap.size h0) (ge_1 : Z.heap.size ≤ a1) (E_1 : Exa Z h0 a1 "java/lang/String") (F_1 : Fld Z h0 a1 "java/lang/String" "coder" "B" (.int (0 : Int32))) (F_2 : Fld Z h0 a1 "java/lang/String" "value" "[B" (.ref a2)) (A_1 : Arv Z h0 a2 k1 .byte (3 : Int32) [(.int p1), (.int p2), (.int p3)] (.int (0 : Int32))) :
    Mt l Z (⟨"java/lang/String", "equals", "(Ljava/lang/Object;)Z"⟩ : MethodName) jdk_42_method_66_code 3 (some .boolean) [] ({ frames := 1, cells := 0, slots := 0, locals := 14 } : Room) #[(.ref (ad7 Z a0)), (.ref a1)] h0 (fun v h L => (v = some (.int (0 : Int32)) ∧ Fr Z.heap.size L ∧ h = h0)) := by
  refine g_body (plainFor_of_name pn_java_lang_String) ?_
  intro p e s m below meth c T0 K X0 e0
  refine g_entry (ef_6 m (ad7 Z a0) a1) ?_
  have Ol0 := Ol
  refine g_aloadN X0 K (q := 1) d9_0 rfl rfl rfl ?_
  refine g_aloadN X0 K (q := 2) d9_1 rfl rfl rfl ?_
  have ne1 : (ad7 Z a0) ≠ a1 := (Nat.ne_of_lt (Nat.lt_of_lt_of_le (f7_value H).lt ge_1))
  refine g_ac X0 K (q := 7) (same := false) d9_2 rfl rfl (decide_eq_false fun q => ne1 (Value.ref.inj q)) (by decide) (by decide) ?_
  refine g_aloadN X0 K (q := 8) d9_7 rfl rfl rfl ?_
  refine g_instY X0 K (q := 11) (w64 H) e0 (Ins.self E_1) d9_8 rfl ?_
  intro T1 X1 e1
  refine g_ifN X1 K (q := 14) d9_11 (by decide) rfl ?_
  refine g_aloadN X1 K (q := 15) d9_14 rfl rfl rfl ?_
  refine g_cast X1 K (q := 18) (w64 H) e1 (Ins.self E_1) d9_15 rfl ?_
  intro T2 X2 e2
  refine g_astoreN X2 K (q := 19) (L' := #[.val (.ref (ad7 Z a0)), .val (.ref a1), .val (.ref a1)]) d9_18 rfl rfl rfl ?_
  refine g_gets X2 K (q := 22) (w65 H) e2 ((ivs0 H).ext Ol0.2) d9_19 rfl ?_
  intro T3 X3 e3
  refine g_ifN X3 K (q := 25) d9_22 (feq (ivn0 H)).1 rfl ?_
  refine g_aloadN X3 K (q := 26) d9_25 rfl rfl rfl ?_
  refine g_getf X3 K (q := 29) (w28 H) Via.refl e3 ((f7_coder H).ext Ol0.2) d9_26 rfl ?_
  intro T4 X4 e4
  refine g_aloadN X4 K (q := 30) d9_29 rfl rfl rfl ?_
  refine g_getf X4 K (q := 33) (w28 H) Via.refl e4 F_1 d9_30 rfl ?_
  intro T5 X5 e5
  refine g_icN X5 K (q := 36) d9_33 (by decide) rfl ?_
  refine g_aloadN X5 K (q := 37) d9_36 rfl rfl rfl ?_
  refine g_getf X5 K (q := 40) (w27 H) Via.refl e5 ((f7_value H).ext Ol0.2) d9_37 rfl ?_
  intro T6 X6 e6
  refine g_aloadN X6 K (q := 41) d9_40 rfl rfl rfl ?_
  refine g_getf X6 K (q := 44) (w27 H) Via.refl e6 F_2 d9_41 rfl ?_
  intro T7 X7 e7
  refine g_static X7 K (q := 47) (W := 0) (w66 H) (w67 H) (w68 H) (w69 H) (by decide) (rm10_91 l H a2 p1 p2 p3 k1 h0 Ol0 A_1) e7 rfl (argsL := [(.ref (ad13 Z a0)), (.ref a2)]) (rest := []) (lenOf pd_6 rfl) rfl rfl (Nat.le_of_eq rfl) d9_44 (by decide) (by decide) (by decide) (by decide) rfl ?_
  rintro T8 v8 L8 X8 ⟨rfl, N8q, e8⟩
  have N8 := Fr.app (Fr.nil _) N8q
  show Go p e below _ T8 (mkF m 47 #[.val (.ref (ad7 Z a0)), .val (.ref a1), .val (.ref a1)] [(.int (0 : Int32))])
  refine g_ifY X8 K (q := 54) d9_47 (by decide) (by decide) (by decide) ?_
  refine g_iconst X8 K (q := 55) (v := (0 : Int32)) d9_54 (by decide) rfl ?_
  refine g_nret X8 K (by simp) (z' := (0 : Int32)) (by decide) d9_55 (by decide) (by decide) ?_
  exact ⟨rfl, N8, e8⟩
set_option maxRecDepth 65536 in
set_option maxHeartbeats 40000000 in
theorem rm10_93 (l : Launch) {Z : State} {a0 : Array Value} (H : Hyp Z a0) (a1 : Addr) (p1 : Int32) (p2 : Int32) (p3 : Int32) (k1 : ClassId) (h0 : Heap) (Ol : Old Z Z.heap.size h0) (A_1 : Arv Z h0 a1 k1 .byte (3 : Int32) [(.int p1), (.int p2), (.int p3)] (.int (0 : Int32))) :
    Mt l Z (⟨"java/lang/StringLatin1", "equals", "([B[B)Z"⟩ : MethodName) jdk_43_method_13_code 3 (some .boolean) [] ({ frames := 0, cells := 0, slots := 0, locals := 0 } : Room) #[(.ref (ad14 Z a0)), (.ref a1)] h0 (fun v h L => (v = some (.int (0 : Int32)) ∧ Fr Z.heap.size L ∧ h = h0)) := by
  refine g_body (plainFor_of_name pn_java_lang_StringLatin1) ?_
  intro p e s m below meth c T0 K X0 e0
  refine g_entry (ef_6 m (ad14 Z a0) a1) ?_
  have Ol0 := Ol
  refine g_aloadN X0 K (q := 1) d10_0 rfl rfl rfl ?_
  refine g_len X0 K (q := 2) e0 ((v14 H).ext Ol0.2) d10_1 rfl ?_
  refine g_aloadN X0 K (q := 3) d10_2 rfl rfl rfl ?_
  refine g_len X0 K (q := 4) e0 A_1 d10_3 rfl ?_
  refine g_icY X0 K (q := 34) d10_4 (by decide) (by decide) (by decide) ?_
  refine g_iconst X0 K (q := 35) (v := (0 : Int32)) d10_34 (by decide) rfl ?_
  refine g_nret X0 K (by simp) (z' := (0 : Int32)) (by decide) d10_35 (by decide) (by decide) ?_
  exact ⟨rfl, (Fr.nil _), e0⟩
set_option maxRecDepth 65536 in
set_option maxHeartbeats 40000000 in
theorem rm9_94 (l : Launch) {Z : State} {a0 : Array Value} (H : Hyp Z a0) (a1 : Addr) (a2 : Addr) (p1 : Int32) (p2 : Int32) (p3 : Int32) (k1 : ClassId) (h0 : Heap) (Ol : Old Z Z.heap.size h0) (ge_1 : Z.heap.size ≤ a1) (E_1 : Exa Z h0 a1 "java/lang/String") (F_1 : Fld Z h0 a1 "java/lang/String" "coder" "B" (.int (0 : Int32))) (F_2 : Fld Z h0 a1 "java/lang/String" "value" "[B" (.ref a2)) (A_1 : Arv Z h0 a2 k1 .byte (3 : Int32) [(.int p1), (.int p2), (.int p3)] (.int (0 : Int32))) :
    Mt l Z (⟨"java/lang/String", "equals", "(Ljava/lang/Object;)Z"⟩ : MethodName) jdk_42_method_66_code 3 (some .boolean) [] ({ frames := 1, cells := 0, slots := 0, locals := 14 } : Room) #[(.ref (ad8 Z a0)), (.ref a1)] h0 (fun v h L => (v = some (.int (0 : Int32)) ∧ Fr Z.heap.size L ∧ h = h0)) := by
  refine g_body (plainFor_of_name pn_java_lang_String) ?_
  intro p e s m below meth c T0 K X0 e0
  refine g_entry (ef_6 m (ad8 Z a0) a1) ?_
  have Ol0 := Ol
  refine g_aloadN X0 K (q := 1) d9_0 rfl rfl rfl ?_
  refine g_aloadN X0 K (q := 2) d9_1 rfl rfl rfl ?_
  have ne1 : (ad8 Z a0) ≠ a1 := (Nat.ne_of_lt (Nat.lt_of_lt_of_le (f8_value H).lt ge_1))
  refine g_ac X0 K (q := 7) (same := false) d9_2 rfl rfl (decide_eq_false fun q => ne1 (Value.ref.inj q)) (by decide) (by decide) ?_
  refine g_aloadN X0 K (q := 8) d9_7 rfl rfl rfl ?_
  refine g_instY X0 K (q := 11) (w64 H) e0 (Ins.self E_1) d9_8 rfl ?_
  intro T1 X1 e1
  refine g_ifN X1 K (q := 14) d9_11 (by decide) rfl ?_
  refine g_aloadN X1 K (q := 15) d9_14 rfl rfl rfl ?_
  refine g_cast X1 K (q := 18) (w64 H) e1 (Ins.self E_1) d9_15 rfl ?_
  intro T2 X2 e2
  refine g_astoreN X2 K (q := 19) (L' := #[.val (.ref (ad8 Z a0)), .val (.ref a1), .val (.ref a1)]) d9_18 rfl rfl rfl ?_
  refine g_gets X2 K (q := 22) (w65 H) e2 ((ivs0 H).ext Ol0.2) d9_19 rfl ?_
  intro T3 X3 e3
  refine g_ifN X3 K (q := 25) d9_22 (feq (ivn0 H)).1 rfl ?_
  refine g_aloadN X3 K (q := 26) d9_25 rfl rfl rfl ?_
  refine g_getf X3 K (q := 29) (w28 H) Via.refl e3 ((f8_coder H).ext Ol0.2) d9_26 rfl ?_
  intro T4 X4 e4
  refine g_aloadN X4 K (q := 30) d9_29 rfl rfl rfl ?_
  refine g_getf X4 K (q := 33) (w28 H) Via.refl e4 F_1 d9_30 rfl ?_
  intro T5 X5 e5
  refine g_icN X5 K (q := 36) d9_33 (by decide) rfl ?_
  refine g_aloadN X5 K (q := 37) d9_36 rfl rfl rfl ?_
  refine g_getf X5 K (q := 40) (w27 H) Via.refl e5 ((f8_value H).ext Ol0.2) d9_37 rfl ?_
  intro T6 X6 e6
  refine g_aloadN X6 K (q := 41) d9_40 rfl rfl rfl ?_
  refine g_getf X6 K (q := 44) (w27 H) Via.refl e6 F_2 d9_41 rfl ?_
  intro T7 X7 e7
  refine g_static X7 K (q := 47) (W := 0) (w66 H) (w67 H) (w68 H) (w69 H) (by decide) (rm10_93 l H a2 p1 p2 p3 k1 h0 Ol0 A_1) e7 rfl (argsL := [(.ref (ad14 Z a0)), (.ref a2)]) (rest := []) (lenOf pd_6 rfl) rfl rfl (Nat.le_of_eq rfl) d9_44 (by decide) (by decide) (by decide) (by decide) rfl ?_
  rintro T8 v8 L8 X8 ⟨rfl, N8q, e8⟩
  have N8 := Fr.app (Fr.nil _) N8q
  show Go p e below _ T8 (mkF m 47 #[.val (.ref (ad8 Z a0)), .val (.ref a1), .val (.ref a1)] [(.int (0 : Int32))])
  refine g_ifY X8 K (q := 54) d9_47 (by decide) (by decide) (by decide) ?_
  refine g_iconst X8 K (q := 55) (v := (0 : Int32)) d9_54 (by decide) rfl ?_
  refine g_nret X8 K (by simp) (z' := (0 : Int32)) (by decide) d9_55 (by decide) (by decide) ?_
  exact ⟨rfl, N8, e8⟩
set_option maxRecDepth 65536 in
set_option maxHeartbeats 40000000 in
theorem rm10_95 (l : Launch) {Z : State} {a0 : Array Value} (H : Hyp Z a0) (a1 : Addr) (p1 : Int32) (p2 : Int32) (p3 : Int32) (k1 : ClassId) (h0 : Heap) (Ol : Old Z Z.heap.size h0) (A_1 : Arv Z h0 a1 k1 .byte (3 : Int32) [(.int p1), (.int p2), (.int p3)] (.int (0 : Int32))) :
    Mt l Z (⟨"java/lang/StringLatin1", "equals", "([B[B)Z"⟩ : MethodName) jdk_43_method_13_code 3 (some .boolean) [] ({ frames := 0, cells := 0, slots := 0, locals := 0 } : Room) #[(.ref (ad15 Z a0)), (.ref a1)] h0 (fun v h L => (v = some (.int (0 : Int32)) ∧ Fr Z.heap.size L ∧ h = h0)) := by
  refine g_body (plainFor_of_name pn_java_lang_StringLatin1) ?_
  intro p e s m below meth c T0 K X0 e0
  refine g_entry (ef_6 m (ad15 Z a0) a1) ?_
  have Ol0 := Ol
  refine g_aloadN X0 K (q := 1) d10_0 rfl rfl rfl ?_
  refine g_len X0 K (q := 2) e0 ((v15 H).ext Ol0.2) d10_1 rfl ?_
  refine g_aloadN X0 K (q := 3) d10_2 rfl rfl rfl ?_
  refine g_len X0 K (q := 4) e0 A_1 d10_3 rfl ?_
  refine g_icY X0 K (q := 34) d10_4 (by decide) (by decide) (by decide) ?_
  refine g_iconst X0 K (q := 35) (v := (0 : Int32)) d10_34 (by decide) rfl ?_
  refine g_nret X0 K (by simp) (z' := (0 : Int32)) (by decide) d10_35 (by decide) (by decide) ?_
  exact ⟨rfl, (Fr.nil _), e0⟩
set_option maxRecDepth 65536 in
set_option maxHeartbeats 40000000 in
theorem rm9_96 (l : Launch) {Z : State} {a0 : Array Value} (H : Hyp Z a0) (a1 : Addr) (a2 : Addr) (p1 : Int32) (p2 : Int32) (p3 : Int32) (k1 : ClassId) (h0 : Heap) (Ol : Old Z Z.heap.size h0) (ge_1 : Z.heap.size ≤ a1) (E_1 : Exa Z h0 a1 "java/lang/String") (F_1 : Fld Z h0 a1 "java/lang/String" "coder" "B" (.int (0 : Int32))) (F_2 : Fld Z h0 a1 "java/lang/String" "value" "[B" (.ref a2)) (A_1 : Arv Z h0 a2 k1 .byte (3 : Int32) [(.int p1), (.int p2), (.int p3)] (.int (0 : Int32))) :
    Mt l Z (⟨"java/lang/String", "equals", "(Ljava/lang/Object;)Z"⟩ : MethodName) jdk_42_method_66_code 3 (some .boolean) [] ({ frames := 1, cells := 0, slots := 0, locals := 14 } : Room) #[(.ref (ad9 Z a0)), (.ref a1)] h0 (fun v h L => (v = some (.int (0 : Int32)) ∧ Fr Z.heap.size L ∧ h = h0)) := by
  refine g_body (plainFor_of_name pn_java_lang_String) ?_
  intro p e s m below meth c T0 K X0 e0
  refine g_entry (ef_6 m (ad9 Z a0) a1) ?_
  have Ol0 := Ol
  refine g_aloadN X0 K (q := 1) d9_0 rfl rfl rfl ?_
  refine g_aloadN X0 K (q := 2) d9_1 rfl rfl rfl ?_
  have ne1 : (ad9 Z a0) ≠ a1 := (Nat.ne_of_lt (Nat.lt_of_lt_of_le (f9_value H).lt ge_1))
  refine g_ac X0 K (q := 7) (same := false) d9_2 rfl rfl (decide_eq_false fun q => ne1 (Value.ref.inj q)) (by decide) (by decide) ?_
  refine g_aloadN X0 K (q := 8) d9_7 rfl rfl rfl ?_
  refine g_instY X0 K (q := 11) (w64 H) e0 (Ins.self E_1) d9_8 rfl ?_
  intro T1 X1 e1
  refine g_ifN X1 K (q := 14) d9_11 (by decide) rfl ?_
  refine g_aloadN X1 K (q := 15) d9_14 rfl rfl rfl ?_
  refine g_cast X1 K (q := 18) (w64 H) e1 (Ins.self E_1) d9_15 rfl ?_
  intro T2 X2 e2
  refine g_astoreN X2 K (q := 19) (L' := #[.val (.ref (ad9 Z a0)), .val (.ref a1), .val (.ref a1)]) d9_18 rfl rfl rfl ?_
  refine g_gets X2 K (q := 22) (w65 H) e2 ((ivs0 H).ext Ol0.2) d9_19 rfl ?_
  intro T3 X3 e3
  refine g_ifN X3 K (q := 25) d9_22 (feq (ivn0 H)).1 rfl ?_
  refine g_aloadN X3 K (q := 26) d9_25 rfl rfl rfl ?_
  refine g_getf X3 K (q := 29) (w28 H) Via.refl e3 ((f9_coder H).ext Ol0.2) d9_26 rfl ?_
  intro T4 X4 e4
  refine g_aloadN X4 K (q := 30) d9_29 rfl rfl rfl ?_
  refine g_getf X4 K (q := 33) (w28 H) Via.refl e4 F_1 d9_30 rfl ?_
  intro T5 X5 e5
  refine g_icN X5 K (q := 36) d9_33 (by decide) rfl ?_
  refine g_aloadN X5 K (q := 37) d9_36 rfl rfl rfl ?_
  refine g_getf X5 K (q := 40) (w27 H) Via.refl e5 ((f9_value H).ext Ol0.2) d9_37 rfl ?_
  intro T6 X6 e6
  refine g_aloadN X6 K (q := 41) d9_40 rfl rfl rfl ?_
  refine g_getf X6 K (q := 44) (w27 H) Via.refl e6 F_2 d9_41 rfl ?_
  intro T7 X7 e7
  refine g_static X7 K (q := 47) (W := 0) (w66 H) (w67 H) (w68 H) (w69 H) (by decide) (rm10_95 l H a2 p1 p2 p3 k1 h0 Ol0 A_1) e7 rfl (argsL := [(.ref (ad15 Z a0)), (.ref a2)]) (rest := []) (lenOf pd_6 rfl) rfl rfl (Nat.le_of_eq rfl) d9_44 (by decide) (by decide) (by decide) (by decide) rfl ?_
  rintro T8 v8 L8 X8 ⟨rfl, N8q, e8⟩
  have N8 := Fr.app (Fr.nil _) N8q
  show Go p e below _ T8 (mkF m 47 #[.val (.ref (ad9 Z a0)), .val (.ref a1), .val (.ref a1)] [(.int (0 : Int32))])
  refine g_ifY X8 K (q := 54) d9_47 (by decide) (by decide) (by decide) ?_
  refine g_iconst X8 K (q := 55) (v := (0 : Int32)) d9_54 (by decide) rfl ?_
  refine g_nret X8 K (by simp) (z' := (0 : Int32)) (by decide) d9_55 (by decide) (by decide) ?_
  exact ⟨rfl, N8, e8⟩
set_option maxRecDepth 65536 in
set_option maxHeartbeats 40000000 in
theorem rm10_97 (l : Launch) {Z : State} {a0 : Array Value} (H : Hyp Z a0) (a1 : Addr) (p1 : Int32) (p2 : Int32) (p3 : Int32) (k1 : ClassId) (h0 : Heap) (Ol : Old Z Z.heap.size h0) (A_1 : Arv Z h0 a1 k1 .byte (3 : Int32) [(.int p1), (.int p2), (.int p3)] (.int (0 : Int32))) :
    Mt l Z (⟨"java/lang/StringLatin1", "equals", "([B[B)Z"⟩ : MethodName) jdk_43_method_13_code 3 (some .boolean) [] ({ frames := 0, cells := 0, slots := 0, locals := 0 } : Room) #[(.ref (ad16 Z a0)), (.ref a1)] h0 (fun v h L => (v = some (.int (0 : Int32)) ∧ Fr Z.heap.size L ∧ h = h0)) := by
  refine g_body (plainFor_of_name pn_java_lang_StringLatin1) ?_
  intro p e s m below meth c T0 K X0 e0
  refine g_entry (ef_6 m (ad16 Z a0) a1) ?_
  have Ol0 := Ol
  refine g_aloadN X0 K (q := 1) d10_0 rfl rfl rfl ?_
  refine g_len X0 K (q := 2) e0 ((v16 H).ext Ol0.2) d10_1 rfl ?_
  refine g_aloadN X0 K (q := 3) d10_2 rfl rfl rfl ?_
  refine g_len X0 K (q := 4) e0 A_1 d10_3 rfl ?_
  refine g_icY X0 K (q := 34) d10_4 (by decide) (by decide) (by decide) ?_
  refine g_iconst X0 K (q := 35) (v := (0 : Int32)) d10_34 (by decide) rfl ?_
  refine g_nret X0 K (by simp) (z' := (0 : Int32)) (by decide) d10_35 (by decide) (by decide) ?_
  exact ⟨rfl, (Fr.nil _), e0⟩
set_option maxRecDepth 65536 in
set_option maxHeartbeats 40000000 in
theorem rm9_98 (l : Launch) {Z : State} {a0 : Array Value} (H : Hyp Z a0) (a1 : Addr) (a2 : Addr) (p1 : Int32) (p2 : Int32) (p3 : Int32) (k1 : ClassId) (h0 : Heap) (Ol : Old Z Z.heap.size h0) (ge_1 : Z.heap.size ≤ a1) (E_1 : Exa Z h0 a1 "java/lang/String") (F_1 : Fld Z h0 a1 "java/lang/String" "coder" "B" (.int (0 : Int32))) (F_2 : Fld Z h0 a1 "java/lang/String" "value" "[B" (.ref a2)) (A_1 : Arv Z h0 a2 k1 .byte (3 : Int32) [(.int p1), (.int p2), (.int p3)] (.int (0 : Int32))) :
    Mt l Z (⟨"java/lang/String", "equals", "(Ljava/lang/Object;)Z"⟩ : MethodName) jdk_42_method_66_code 3 (some .boolean) [] ({ frames := 1, cells := 0, slots := 0, locals := 14 } : Room) #[(.ref (ad10 Z a0)), (.ref a1)] h0 (fun v h L => (v = some (.int (0 : Int32)) ∧ Fr Z.heap.size L ∧ h = h0)) := by
  refine g_body (plainFor_of_name pn_java_lang_String) ?_
  intro p e s m below meth c T0 K X0 e0
  refine g_entry (ef_6 m (ad10 Z a0) a1) ?_
  have Ol0 := Ol
  refine g_aloadN X0 K (q := 1) d9_0 rfl rfl rfl ?_
  refine g_aloadN X0 K (q := 2) d9_1 rfl rfl rfl ?_
  have ne1 : (ad10 Z a0) ≠ a1 := (Nat.ne_of_lt (Nat.lt_of_lt_of_le (f10_value H).lt ge_1))
  refine g_ac X0 K (q := 7) (same := false) d9_2 rfl rfl (decide_eq_false fun q => ne1 (Value.ref.inj q)) (by decide) (by decide) ?_
  refine g_aloadN X0 K (q := 8) d9_7 rfl rfl rfl ?_
  refine g_instY X0 K (q := 11) (w64 H) e0 (Ins.self E_1) d9_8 rfl ?_
  intro T1 X1 e1
  refine g_ifN X1 K (q := 14) d9_11 (by decide) rfl ?_
  refine g_aloadN X1 K (q := 15) d9_14 rfl rfl rfl ?_
  refine g_cast X1 K (q := 18) (w64 H) e1 (Ins.self E_1) d9_15 rfl ?_
  intro T2 X2 e2
  refine g_astoreN X2 K (q := 19) (L' := #[.val (.ref (ad10 Z a0)), .val (.ref a1), .val (.ref a1)]) d9_18 rfl rfl rfl ?_
  refine g_gets X2 K (q := 22) (w65 H) e2 ((ivs0 H).ext Ol0.2) d9_19 rfl ?_
  intro T3 X3 e3
  refine g_ifN X3 K (q := 25) d9_22 (feq (ivn0 H)).1 rfl ?_
  refine g_aloadN X3 K (q := 26) d9_25 rfl rfl rfl ?_
  refine g_getf X3 K (q := 29) (w28 H) Via.refl e3 ((f10_coder H).ext Ol0.2) d9_26 rfl ?_
  intro T4 X4 e4
  refine g_aloadN X4 K (q := 30) d9_29 rfl rfl rfl ?_
  refine g_getf X4 K (q := 33) (w28 H) Via.refl e4 F_1 d9_30 rfl ?_
  intro T5 X5 e5
  refine g_icN X5 K (q := 36) d9_33 (by decide) rfl ?_
  refine g_aloadN X5 K (q := 37) d9_36 rfl rfl rfl ?_
  refine g_getf X5 K (q := 40) (w27 H) Via.refl e5 ((f10_value H).ext Ol0.2) d9_37 rfl ?_
  intro T6 X6 e6
  refine g_aloadN X6 K (q := 41) d9_40 rfl rfl rfl ?_
  refine g_getf X6 K (q := 44) (w27 H) Via.refl e6 F_2 d9_41 rfl ?_
  intro T7 X7 e7
  refine g_static X7 K (q := 47) (W := 0) (w66 H) (w67 H) (w68 H) (w69 H) (by decide) (rm10_97 l H a2 p1 p2 p3 k1 h0 Ol0 A_1) e7 rfl (argsL := [(.ref (ad16 Z a0)), (.ref a2)]) (rest := []) (lenOf pd_6 rfl) rfl rfl (Nat.le_of_eq rfl) d9_44 (by decide) (by decide) (by decide) (by decide) rfl ?_
  rintro T8 v8 L8 X8 ⟨rfl, N8q, e8⟩
  have N8 := Fr.app (Fr.nil _) N8q
  show Go p e below _ T8 (mkF m 47 #[.val (.ref (ad10 Z a0)), .val (.ref a1), .val (.ref a1)] [(.int (0 : Int32))])
  refine g_ifY X8 K (q := 54) d9_47 (by decide) (by decide) (by decide) ?_
  refine g_iconst X8 K (q := 55) (v := (0 : Int32)) d9_54 (by decide) rfl ?_
  refine g_nret X8 K (by simp) (z' := (0 : Int32)) (by decide) d9_55 (by decide) (by decide) ?_
  exact ⟨rfl, N8, e8⟩
set_option maxRecDepth 65536 in
set_option maxHeartbeats 40000000 in
theorem rm10_99 (l : Launch) {Z : State} {a0 : Array Value} (H : Hyp Z a0) (a1 : Addr) (p1 : Int32) (p2 : Int32) (p3 : Int32) (k1 : ClassId) (h0 : Heap) (Ol : Old Z Z.heap.size h0) (A_1 : Arv Z h0 a1 k1 .byte (3 : Int32) [(.int p1), (.int p2), (.int p3)] (.int (0 : Int32))) :
    Mt l Z (⟨"java/lang/StringLatin1", "equals", "([B[B)Z"⟩ : MethodName) jdk_43_method_13_code 3 (some .boolean) [] ({ frames := 0, cells := 0, slots := 0, locals := 0 } : Room) #[(.ref (ad17 Z a0)), (.ref a1)] h0 (fun v h L => (v = some (.int (0 : Int32)) ∧ Fr Z.heap.size L ∧ h = h0)) := by
  refine g_body (plainFor_of_name pn_java_lang_StringLatin1) ?_
  intro p e s m below meth c T0 K X0 e0
  refine g_entry (ef_6 m (ad17 Z a0) a1) ?_
  have Ol0 := Ol
  refine g_aloadN X0 K (q := 1) d10_0 rfl rfl rfl ?_
  refine g_len X0 K (q := 2) e0 ((v17 H).ext Ol0.2) d10_1 rfl ?_
  refine g_aloadN X0 K (q := 3) d10_2 rfl rfl rfl ?_
  refine g_len X0 K (q := 4) e0 A_1 d10_3 rfl ?_
  refine g_icY X0 K (q := 34) d10_4 (by decide) (by decide) (by decide) ?_
  refine g_iconst X0 K (q := 35) (v := (0 : Int32)) d10_34 (by decide) rfl ?_
  refine g_nret X0 K (by simp) (z' := (0 : Int32)) (by decide) d10_35 (by decide) (by decide) ?_
  exact ⟨rfl, (Fr.nil _), e0⟩
set_option maxRecDepth 65536 in
set_option maxHeartbeats 40000000 in
theorem rm9_100 (l : Launch) {Z : State} {a0 : Array Value} (H : Hyp Z a0) (a1 : Addr) (a2 : Addr) (p1 : Int32) (p2 : Int32) (p3 : Int32) (k1 : ClassId) (h0 : Heap) (Ol : Old Z Z.heap.size h0) (ge_1 : Z.heap.size ≤ a1) (E_1 : Exa Z h0 a1 "java/lang/String") (F_1 : Fld Z h0 a1 "java/lang/String" "coder" "B" (.int (0 : Int32))) (F_2 : Fld Z h0 a1 "java/lang/String" "value" "[B" (.ref a2)) (A_1 : Arv Z h0 a2 k1 .byte (3 : Int32) [(.int p1), (.int p2), (.int p3)] (.int (0 : Int32))) :
    Mt l Z (⟨"java/lang/String", "equals", "(Ljava/lang/Object;)Z"⟩ : MethodName) jdk_42_method_66_code 3 (some .boolean) [] ({ frames := 1, cells := 0, slots := 0, locals := 14 } : Room) #[(.ref (ad11 Z a0)), (.ref a1)] h0 (fun v h L => (v = some (.int (0 : Int32)) ∧ Fr Z.heap.size L ∧ h = h0)) := by
  refine g_body (plainFor_of_name pn_java_lang_String) ?_
  intro p e s m below meth c T0 K X0 e0
  refine g_entry (ef_6 m (ad11 Z a0) a1) ?_
  have Ol0 := Ol
  refine g_aloadN X0 K (q := 1) d9_0 rfl rfl rfl ?_
  refine g_aloadN X0 K (q := 2) d9_1 rfl rfl rfl ?_
  have ne1 : (ad11 Z a0) ≠ a1 := (Nat.ne_of_lt (Nat.lt_of_lt_of_le (f11_value H).lt ge_1))
  refine g_ac X0 K (q := 7) (same := false) d9_2 rfl rfl (decide_eq_false fun q => ne1 (Value.ref.inj q)) (by decide) (by decide) ?_
  refine g_aloadN X0 K (q := 8) d9_7 rfl rfl rfl ?_
  refine g_instY X0 K (q := 11) (w64 H) e0 (Ins.self E_1) d9_8 rfl ?_
  intro T1 X1 e1
  refine g_ifN X1 K (q := 14) d9_11 (by decide) rfl ?_
  refine g_aloadN X1 K (q := 15) d9_14 rfl rfl rfl ?_
  refine g_cast X1 K (q := 18) (w64 H) e1 (Ins.self E_1) d9_15 rfl ?_
  intro T2 X2 e2
  refine g_astoreN X2 K (q := 19) (L' := #[.val (.ref (ad11 Z a0)), .val (.ref a1), .val (.ref a1)]) d9_18 rfl rfl rfl ?_
  refine g_gets X2 K (q := 22) (w65 H) e2 ((ivs0 H).ext Ol0.2) d9_19 rfl ?_
  intro T3 X3 e3
  refine g_ifN X3 K (q := 25) d9_22 (feq (ivn0 H)).1 rfl ?_
  refine g_aloadN X3 K (q := 26) d9_25 rfl rfl rfl ?_
  refine g_getf X3 K (q := 29) (w28 H) Via.refl e3 ((f11_coder H).ext Ol0.2) d9_26 rfl ?_
  intro T4 X4 e4
  refine g_aloadN X4 K (q := 30) d9_29 rfl rfl rfl ?_
  refine g_getf X4 K (q := 33) (w28 H) Via.refl e4 F_1 d9_30 rfl ?_
  intro T5 X5 e5
  refine g_icN X5 K (q := 36) d9_33 (by decide) rfl ?_
  refine g_aloadN X5 K (q := 37) d9_36 rfl rfl rfl ?_
  refine g_getf X5 K (q := 40) (w27 H) Via.refl e5 ((f11_value H).ext Ol0.2) d9_37 rfl ?_
  intro T6 X6 e6
  refine g_aloadN X6 K (q := 41) d9_40 rfl rfl rfl ?_
  refine g_getf X6 K (q := 44) (w27 H) Via.refl e6 F_2 d9_41 rfl ?_
  intro T7 X7 e7
  refine g_static X7 K (q := 47) (W := 0) (w66 H) (w67 H) (w68 H) (w69 H) (by decide) (rm10_99 l H a2 p1 p2 p3 k1 h0 Ol0 A_1) e7 rfl (argsL := [(.ref (ad17 Z a0)), (.ref a2)]) (rest := []) (lenOf pd_6 rfl) rfl rfl (Nat.le_of_eq rfl) d9_44 (by decide) (by decide) (by decide) (by decide) rfl ?_
  rintro T8 v8 L8 X8 ⟨rfl, N8q, e8⟩
  have N8 := Fr.app (Fr.nil _) N8q
  show Go p e below _ T8 (mkF m 47 #[.val (.ref (ad11 Z a0)), .val (.ref a1), .val (.ref a1)] [(.int (0 : Int32))])
  refine g_ifY X8 K (q := 54) d9_47 (by decide) (by decide) (by decide) ?_
  refine g_iconst X8 K (q := 55) (v := (0 : Int32)) d9_54 (by decide) rfl ?_
  refine g_nret X8 K (by simp) (z' := (0 : Int32)) (by decide) d9_55 (by decide) (by decide) ?_
  exact ⟨rfl, N8, e8⟩
set_option maxRecDepth 65536 in
set_option maxHeartbeats 40000000 in
theorem rm10_101 (l : Launch) {Z : State} {a0 : Array Value} (H : Hyp Z a0) (a1 : Addr) (p1 : Int32) (p2 : Int32) (p3 : Int32) (k1 : ClassId) (h0 : Heap) (Ol : Old Z Z.heap.size h0) (A_1 : Arv Z h0 a1 k1 .byte (3 : Int32) [(.int p1), (.int p2), (.int p3)] (.int (0 : Int32))) :
    Mt l Z (⟨"java/lang/StringLatin1", "equals", "([B[B)Z"⟩ : MethodName) jdk_43_method_13_code 3 (some .boolean) [] ({ frames := 0, cells := 0, slots := 0, locals := 0 } : Room) #[(.ref (ad18 Z a0)), (.ref a1)] h0 (fun v h L => (v = some (.int (0 : Int32)) ∧ Fr Z.heap.size L ∧ h = h0)) := by
  refine g_body (plainFor_of_name pn_java_lang_StringLatin1) ?_
  intro p e s m below meth c T0 K X0 e0
  refine g_entry (ef_6 m (ad18 Z a0) a1) ?_
  have Ol0 := Ol
  refine g_aloadN X0 K (q := 1) d10_0 rfl rfl rfl ?_
  refine g_len X0 K (q := 2) e0 ((v18 H).ext Ol0.2) d10_1 rfl ?_
  refine g_aloadN X0 K (q := 3) d10_2 rfl rfl rfl ?_
  refine g_len X0 K (q := 4) e0 A_1 d10_3 rfl ?_
  refine g_icY X0 K (q := 34) d10_4 (by decide) (by decide) (by decide) ?_
  refine g_iconst X0 K (q := 35) (v := (0 : Int32)) d10_34 (by decide) rfl ?_
  refine g_nret X0 K (by simp) (z' := (0 : Int32)) (by decide) d10_35 (by decide) (by decide) ?_
  exact ⟨rfl, (Fr.nil _), e0⟩
set_option maxRecDepth 65536 in
set_option maxHeartbeats 40000000 in
theorem rm9_102 (l : Launch) {Z : State} {a0 : Array Value} (H : Hyp Z a0) (a1 : Addr) (a2 : Addr) (p1 : Int32) (p2 : Int32) (p3 : Int32) (k1 : ClassId) (h0 : Heap) (Ol : Old Z Z.heap.size h0) (ge_1 : Z.heap.size ≤ a1) (E_1 : Exa Z h0 a1 "java/lang/String") (F_1 : Fld Z h0 a1 "java/lang/String" "coder" "B" (.int (0 : Int32))) (F_2 : Fld Z h0 a1 "java/lang/String" "value" "[B" (.ref a2)) (A_1 : Arv Z h0 a2 k1 .byte (3 : Int32) [(.int p1), (.int p2), (.int p3)] (.int (0 : Int32))) :
    Mt l Z (⟨"java/lang/String", "equals", "(Ljava/lang/Object;)Z"⟩ : MethodName) jdk_42_method_66_code 3 (some .boolean) [] ({ frames := 1, cells := 0, slots := 0, locals := 14 } : Room) #[(.ref (ad12 Z a0)), (.ref a1)] h0 (fun v h L => (v = some (.int (0 : Int32)) ∧ Fr Z.heap.size L ∧ h = h0)) := by
  refine g_body (plainFor_of_name pn_java_lang_String) ?_
  intro p e s m below meth c T0 K X0 e0
  refine g_entry (ef_6 m (ad12 Z a0) a1) ?_
  have Ol0 := Ol
  refine g_aloadN X0 K (q := 1) d9_0 rfl rfl rfl ?_
  refine g_aloadN X0 K (q := 2) d9_1 rfl rfl rfl ?_
  have ne1 : (ad12 Z a0) ≠ a1 := (Nat.ne_of_lt (Nat.lt_of_lt_of_le (f12_value H).lt ge_1))
  refine g_ac X0 K (q := 7) (same := false) d9_2 rfl rfl (decide_eq_false fun q => ne1 (Value.ref.inj q)) (by decide) (by decide) ?_
  refine g_aloadN X0 K (q := 8) d9_7 rfl rfl rfl ?_
  refine g_instY X0 K (q := 11) (w64 H) e0 (Ins.self E_1) d9_8 rfl ?_
  intro T1 X1 e1
  refine g_ifN X1 K (q := 14) d9_11 (by decide) rfl ?_
  refine g_aloadN X1 K (q := 15) d9_14 rfl rfl rfl ?_
  refine g_cast X1 K (q := 18) (w64 H) e1 (Ins.self E_1) d9_15 rfl ?_
  intro T2 X2 e2
  refine g_astoreN X2 K (q := 19) (L' := #[.val (.ref (ad12 Z a0)), .val (.ref a1), .val (.ref a1)]) d9_18 rfl rfl rfl ?_
  refine g_gets X2 K (q := 22) (w65 H) e2 ((ivs0 H).ext Ol0.2) d9_19 rfl ?_
  intro T3 X3 e3
  refine g_ifN X3 K (q := 25) d9_22 (feq (ivn0 H)).1 rfl ?_
  refine g_aloadN X3 K (q := 26) d9_25 rfl rfl rfl ?_
  refine g_getf X3 K (q := 29) (w28 H) Via.refl e3 ((f12_coder H).ext Ol0.2) d9_26 rfl ?_
  intro T4 X4 e4
  refine g_aloadN X4 K (q := 30) d9_29 rfl rfl rfl ?_
  refine g_getf X4 K (q := 33) (w28 H) Via.refl e4 F_1 d9_30 rfl ?_
  intro T5 X5 e5
  refine g_icN X5 K (q := 36) d9_33 (by decide) rfl ?_
  refine g_aloadN X5 K (q := 37) d9_36 rfl rfl rfl ?_
  refine g_getf X5 K (q := 40) (w27 H) Via.refl e5 ((f12_value H).ext Ol0.2) d9_37 rfl ?_
  intro T6 X6 e6
  refine g_aloadN X6 K (q := 41) d9_40 rfl rfl rfl ?_
  refine g_getf X6 K (q := 44) (w27 H) Via.refl e6 F_2 d9_41 rfl ?_
  intro T7 X7 e7
  refine g_static X7 K (q := 47) (W := 0) (w66 H) (w67 H) (w68 H) (w69 H) (by decide) (rm10_101 l H a2 p1 p2 p3 k1 h0 Ol0 A_1) e7 rfl (argsL := [(.ref (ad18 Z a0)), (.ref a2)]) (rest := []) (lenOf pd_6 rfl) rfl rfl (Nat.le_of_eq rfl) d9_44 (by decide) (by decide) (by decide) (by decide) rfl ?_
  rintro T8 v8 L8 X8 ⟨rfl, N8q, e8⟩
  have N8 := Fr.app (Fr.nil _) N8q
  show Go p e below _ T8 (mkF m 47 #[.val (.ref (ad12 Z a0)), .val (.ref a1), .val (.ref a1)] [(.int (0 : Int32))])
  refine g_ifY X8 K (q := 54) d9_47 (by decide) (by decide) (by decide) ?_
  refine g_iconst X8 K (q := 55) (v := (0 : Int32)) d9_54 (by decide) rfl ?_
  refine g_nret X8 K (by simp) (z' := (0 : Int32)) (by decide) d9_55 (by decide) (by decide) ?_
  exact ⟨rfl, N8, e8⟩
set_option maxRecDepth 65536 in
set_option maxHeartbeats 40000000 in
theorem rm7_103 (l : Launch) {Z : State} {a0 : Array Value} (H : Hyp Z a0) (a1 : Addr) (a2 : Addr) (p1 : Int32) (p2 : Int32) (p3 : Int32) (k1 : ClassId) (h0 : Heap) (Ol : Old Z Z.heap.size h0) (F_1 : Fld Z h0 a1 "java/lang/String" "coder" "B" (.int (0 : Int32))) (F_2 : Fld Z h0 a1 "java/lang/String" "value" "[B" (.ref a2)) (A_1 : Arv Z h0 a2 k1 .byte (3 : Int32) [(.int p1), (.int p2), (.int p3)] (.int (0 : Int32))) (ge_1 : Z.heap.size ≤ a1) (E_1 : Exa Z h0 a1 "java/lang/String") :
    Mt l Z (⟨"com/example/annotable/annotable/PathQuery$Comparison", "of", "(Ljava/lang/String;)Lcom/example/annotable/annotable/PathQuery$Comparison;"⟩ : MethodName) prog_16_method_6_code 5 (some (.object "com/example/annotable/annotable/PathQuery$Comparison")) [] ({ frames := 2, cells := 1, slots := 6, locals := 28 } : Room) #[(.ref a1)] h0 (fun v h L => (v = some .null ∧ Fr Z.heap.size L ∧ Keep h0 h [])) := by
  refine g_body (plainFor_of_name pn_com_example_annotable_annotable_PathQuery_Comparison) ?_
  intro p e s m below meth c T0 K X0 e0
  refine g_entry (ef_7 m a1) ?_
  have nw_a1 : a1 ∉ [] := nin0
  have nw_a2 : a2 ∉ [] := nin0
  have Ol0 := Ol
  refine g_static X0 K (q := 3) (W := 0) (w36 H) (w37 H) (w34 H) (w38 H) (by decide) (rm8_6 l H h0 Ol0) e0 rfl (argsL := []) (rest := []) (lenOf pd_5 rfl) rfl rfl (Nat.le_of_eq rfl) d7_0 (by decide) (by decide) (by decide) (by decide) rfl ?_
  rintro T1 v1 L1 X1 ⟨bx1, rfl, N1q, Kc1, lz1_0, g1, g2⟩
  have szbx1 := Nat.le_trans (Keep.refl h0 []).1 lz1_0
  have gebx1 := Nat.le_trans Ol0.2.1 lz1_0
  have so1 := Sd.one bx1
  obtain ⟨N1, Ol1, Kp1⟩ := ivK (Fr.nil _) Ol0 (Keep.refl h0 []) N1q Kc1 all0 all0
  show Go p e below _ T1 (mkF m 3 #[.val (.ref a1), .unset, .unset, .unset, .unset] [(.ref bx1)])
  refine g_astoreN X1 K (q := 4) (L' := #[.val (.ref a1), .val (.ref bx1), .unset, .unset, .unset]) d7_3 rfl rfl rfl ?_
  refine g_aloadN X1 K (q := 5) d7_4 rfl rfl rfl ?_
  refine g_len X1 K (q := 6) rfl g1 d7_5 rfl ?_
  refine g_istoreN X1 K (q := 7) (L' := #[.val (.ref a1), .val (.ref bx1), .val (.int (6 : Int32)), .unset, .unset]) d7_6 rfl rfl ?_
  refine g_iconst X1 K (q := 8) (v := (0 : Int32)) d7_7 (by decide) rfl ?_
  refine g_istoreN X1 K (q := 9) (L' := #[.val (.ref a1), .val (.ref bx1), .val (.int (6 : Int32)), .val (.int (0 : Int32)), .unset]) d7_8 rfl rfl ?_
  refine g_iloadN X1 K (q := 10) d7_9 rfl rfl ?_
  refine g_iloadN X1 K (q := 11) d7_10 rfl rfl ?_
  refine g_icN X1 K (q := 14) d7_11 (by decide) rfl ?_
  refine g_aloadN X1 K (q := 15) d7_14 rfl rfl rfl ?_
  refine g_iloadN X1 K (q := 16) d7_15 rfl rfl ?_
  refine g_aald X1 K (q := 17) (v := (.ref (ad1 Z a0))) rfl g1 rfl (by decide) rfl d7_16 rfl ?_
  refine g_astore X1 K (q := 19) (L' := #[.val (.ref a1), .val (.ref bx1), .val (.int (6 : Int32)), .val (.int (0 : Int32)), .val (.ref (ad1 Z a0))]) d7_17 rfl rfl rfl ?_
  refine g_aload X1 K (q := 21) d7_19 rfl rfl rfl ?_
  refine g_getf X1 K (q := 24) (w57 H) Via.refl rfl ((f1_symbol H).ext Ol1.2) d7_21 rfl ?_
  intro T2 X2 e2
  refine g_aloadN X2 K (q := 25) d7_24 rfl rfl rfl ?_
  have f1 := E_1.keep Kp1
  have f2 := F_1.keep Kp1 nw_a1
  have f3 := F_2.keep Kp1 nw_a1
  have f4 := A_1.keep Kp1 nw_a2
  refine g_virtual X2 K (q := 28) (W := 0) (a := (ad7 Z a0)) (w59 H) (w60 H) (nf_self K (w62 H)) (w62 H) (w61 H) (w9 H) (w63 H) (by decide) (rm9_92 l H a1 a2 p1 p2 p3 k1 T1.heap Ol1 ge_1 f1 f2 f3 f4) e2 ((x7 H).ext Ol1.2) rfl (argsL := [(.ref a1)]) (rest := []) (lenOf pd_7 rfl) rfl rfl (Nat.le_of_eq rfl) d7_25 (by decide) (by decide) (by decide) (by decide) rfl ?_
  rintro T3 v3 L3 X3 ⟨rfl, N3q, e3⟩
  have N3 := Fr.app N1 N3q
  show Go p e below _ T3 (mkF m 28 #[.val (.ref a1), .val (.ref bx1), .val (.int (6 : Int32)), .val (.int (0 : Int32)), .val (.ref (ad1 Z a0))] [(.int (0 : Int32))])
  refine g_ifY X3 K (q := 34) d7_28 (by decide) (by decide) (by decide) ?_
  refine g_iinc X3 K (q := 37) (z := (1 : Int32)) (L' := #[.val (.ref a1), .val (.ref bx1), .val (.int (6 : Int32)), .val (.int (1 : Int32)), .val (.ref (ad1 Z a0))]) d7_34 rfl (by decide) rfl rfl ?_
  refine g_goto X3 K (q := 9) d7_37 (by decide) (by decide) ?_
  refine g_iloadN X3 K (q := 10) d7_9 rfl rfl ?_
  refine g_iloadN X3 K (q := 11) d7_10 rfl rfl ?_
  refine g_icN X3 K (q := 14) d7_11 (by decide) rfl ?_
  refine g_aloadN X3 K (q := 15) d7_14 rfl rfl rfl ?_
  refine g_iloadN X3 K (q := 16) d7_15 rfl rfl ?_
  refine g_aald X3 K (q := 17) (v := (.ref (ad2 Z a0))) e3 g1 rfl (by decide) rfl d7_16 rfl ?_
  refine g_astore X3 K (q := 19) (L' := #[.val (.ref a1), .val (.ref bx1), .val (.int (6 : Int32)), .val (.int (1 : Int32)), .val (.ref (ad2 Z a0))]) d7_17 rfl rfl rfl ?_
  refine g_aload X3 K (q := 21) d7_19 rfl rfl rfl ?_
  refine g_getf X3 K (q := 24) (w57 H) Via.refl e3 ((f2_symbol H).ext Ol1.2) d7_21 rfl ?_
  intro T4 X4 e4
  refine g_aloadN X4 K (q := 25) d7_24 rfl rfl rfl ?_
  refine g_virtual X4 K (q := 28) (W := 0) (a := (ad8 Z a0)) (w59 H) (w60 H) (nf_self K (w62 H)) (w62 H) (w61 H) (w9 H) (w63 H) (by decide) (rm9_94 l H a1 a2 p1 p2 p3 k1 T1.heap Ol1 ge_1 f1 f2 f3 f4) e4 ((x8 H).ext Ol1.2) rfl (argsL := [(.ref a1)]) (rest := []) (lenOf pd_7 rfl) rfl rfl (Nat.le_of_eq rfl) d7_25 (by decide) (by decide) (by decide) (by decide) rfl ?_
  rintro T5 v5 L5 X5 ⟨rfl, N5q, e5⟩
  have N5 := Fr.app N3 N5q
  show Go p e below _ T5 (mkF m 28 #[.val (.ref a1), .val (.ref bx1), .val (.int (6 : Int32)), .val (.int (1 : Int32)), .val (.ref (ad2 Z a0))] [(.int (0 : Int32))])
  refine g_ifY X5 K (q := 34) d7_28 (by decide) (by decide) (by decide) ?_
  refine g_iinc X5 K (q := 37) (z := (2 : Int32)) (L' := #[.val (.ref a1), .val (.ref bx1), .val (.int (6 : Int32)), .val (.int (2 : Int32)), .val (.ref (ad2 Z a0))]) d7_34 rfl (by decide) rfl rfl ?_
  refine g_goto X5 K (q := 9) d7_37 (by decide) (by decide) ?_
  refine g_iloadN X5 K (q := 10) d7_9 rfl rfl ?_
  refine g_iloadN X5 K (q := 11) d7_10 rfl rfl ?_
  refine g_icN X5 K (q := 14) d7_11 (by decide) rfl ?_
  refine g_aloadN X5 K (q := 15) d7_14 rfl rfl rfl ?_
  refine g_iloadN X5 K (q := 16) d7_15 rfl rfl ?_
  refine g_aald X5 K (q := 17) (v := (.ref (ad3 Z a0))) e5 g1 rfl (by decide) rfl d7_16 rfl ?_
  refine g_astore X5 K (q := 19) (L' := #[.val (.ref a1), .val (.ref bx1), .val (.int (6 : Int32)), .val (.int (2 : Int32)), .val (.ref (ad3 Z a0))]) d7_17 rfl rfl rfl ?_
  refine g_aload X5 K (q := 21) d7_19 rfl rfl rfl ?_
  refine g_getf X5 K (q := 24) (w57 H) Via.refl e5 ((f3_symbol H).ext Ol1.2) d7_21 rfl ?_
  intro T6 X6 e6
  refine g_aloadN X6 K (q := 25) d7_24 rfl rfl rfl ?_
  refine g_virtual X6 K (q := 28) (W := 0) (a := (ad9 Z a0)) (w59 H) (w60 H) (nf_self K (w62 H)) (w62 H) (w61 H) (w9 H) (w63 H) (by decide) (rm9_96 l H a1 a2 p1 p2 p3 k1 T1.heap Ol1 ge_1 f1 f2 f3 f4) e6 ((x9 H).ext Ol1.2) rfl (argsL := [(.ref a1)]) (rest := []) (lenOf pd_7 rfl) rfl rfl (Nat.le_of_eq rfl) d7_25 (by decide) (by decide) (by decide) (by decide) rfl ?_
  rintro T7 v7 L7 X7 ⟨rfl, N7q, e7⟩
  have N7 := Fr.app N5 N7q
  show Go p e below _ T7 (mkF m 28 #[.val (.ref a1), .val (.ref bx1), .val (.int (6 : Int32)), .val (.int (2 : Int32)), .val (.ref (ad3 Z a0))] [(.int (0 : Int32))])
  refine g_ifY X7 K (q := 34) d7_28 (by decide) (by decide) (by decide) ?_
  refine g_iinc X7 K (q := 37) (z := (3 : Int32)) (L' := #[.val (.ref a1), .val (.ref bx1), .val (.int (6 : Int32)), .val (.int (3 : Int32)), .val (.ref (ad3 Z a0))]) d7_34 rfl (by decide) rfl rfl ?_
  refine g_goto X7 K (q := 9) d7_37 (by decide) (by decide) ?_
  refine g_iloadN X7 K (q := 10) d7_9 rfl rfl ?_
  refine g_iloadN X7 K (q := 11) d7_10 rfl rfl ?_
  refine g_icN X7 K (q := 14) d7_11 (by decide) rfl ?_
  refine g_aloadN X7 K (q := 15) d7_14 rfl rfl rfl ?_
  refine g_iloadN X7 K (q := 16) d7_15 rfl rfl ?_
  refine g_aald X7 K (q := 17) (v := (.ref (ad4 Z a0))) e7 g1 rfl (by decide) rfl d7_16 rfl ?_
  refine g_astore X7 K (q := 19) (L' := #[.val (.ref a1), .val (.ref bx1), .val (.int (6 : Int32)), .val (.int (3 : Int32)), .val (.ref (ad4 Z a0))]) d7_17 rfl rfl rfl ?_
  refine g_aload X7 K (q := 21) d7_19 rfl rfl rfl ?_
  refine g_getf X7 K (q := 24) (w57 H) Via.refl e7 ((f4_symbol H).ext Ol1.2) d7_21 rfl ?_
  intro T8 X8 e8
  refine g_aloadN X8 K (q := 25) d7_24 rfl rfl rfl ?_
  refine g_virtual X8 K (q := 28) (W := 0) (a := (ad10 Z a0)) (w59 H) (w60 H) (nf_self K (w62 H)) (w62 H) (w61 H) (w9 H) (w63 H) (by decide) (rm9_98 l H a1 a2 p1 p2 p3 k1 T1.heap Ol1 ge_1 f1 f2 f3 f4) e8 ((x10 H).ext Ol1.2) rfl (argsL := [(.ref a1)]) (rest := []) (lenOf pd_7 rfl) rfl rfl (Nat.le_of_eq rfl) d7_25 (by decide) (by decide) (by decide) (by decide) rfl ?_
  rintro T9 v9 L9 X9 ⟨rfl, N9q, e9⟩
  have N9 := Fr.app N7 N9q
  show Go p e below _ T9 (mkF m 28 #[.val (.ref a1), .val (.ref bx1), .val (.int (6 : Int32)), .val (.int (3 : Int32)), .val (.ref (ad4 Z a0))] [(.int (0 : Int32))])
  refine g_ifY X9 K (q := 34) d7_28 (by decide) (by decide) (by decide) ?_
  refine g_iinc X9 K (q := 37) (z := (4 : Int32)) (L' := #[.val (.ref a1), .val (.ref bx1), .val (.int (6 : Int32)), .val (.int (4 : Int32)), .val (.ref (ad4 Z a0))]) d7_34 rfl (by decide) rfl rfl ?_
  refine g_goto X9 K (q := 9) d7_37 (by decide) (by decide) ?_
  refine g_iloadN X9 K (q := 10) d7_9 rfl rfl ?_
  refine g_iloadN X9 K (q := 11) d7_10 rfl rfl ?_
  refine g_icN X9 K (q := 14) d7_11 (by decide) rfl ?_
  refine g_aloadN X9 K (q := 15) d7_14 rfl rfl rfl ?_
  refine g_iloadN X9 K (q := 16) d7_15 rfl rfl ?_
  refine g_aald X9 K (q := 17) (v := (.ref (ad5 Z a0))) e9 g1 rfl (by decide) rfl d7_16 rfl ?_
  refine g_astore X9 K (q := 19) (L' := #[.val (.ref a1), .val (.ref bx1), .val (.int (6 : Int32)), .val (.int (4 : Int32)), .val (.ref (ad5 Z a0))]) d7_17 rfl rfl rfl ?_
  refine g_aload X9 K (q := 21) d7_19 rfl rfl rfl ?_
  refine g_getf X9 K (q := 24) (w57 H) Via.refl e9 ((f5_symbol H).ext Ol1.2) d7_21 rfl ?_
  intro T10 X10 e10
  refine g_aloadN X10 K (q := 25) d7_24 rfl rfl rfl ?_
  refine g_virtual X10 K (q := 28) (W := 0) (a := (ad11 Z a0)) (w59 H) (w60 H) (nf_self K (w62 H)) (w62 H) (w61 H) (w9 H) (w63 H) (by decide) (rm9_100 l H a1 a2 p1 p2 p3 k1 T1.heap Ol1 ge_1 f1 f2 f3 f4) e10 ((x11 H).ext Ol1.2) rfl (argsL := [(.ref a1)]) (rest := []) (lenOf pd_7 rfl) rfl rfl (Nat.le_of_eq rfl) d7_25 (by decide) (by decide) (by decide) (by decide) rfl ?_
  rintro T11 v11 L11 X11 ⟨rfl, N11q, e11⟩
  have N11 := Fr.app N9 N11q
  show Go p e below _ T11 (mkF m 28 #[.val (.ref a1), .val (.ref bx1), .val (.int (6 : Int32)), .val (.int (4 : Int32)), .val (.ref (ad5 Z a0))] [(.int (0 : Int32))])
  refine g_ifY X11 K (q := 34) d7_28 (by decide) (by decide) (by decide) ?_
  refine g_iinc X11 K (q := 37) (z := (5 : Int32)) (L' := #[.val (.ref a1), .val (.ref bx1), .val (.int (6 : Int32)), .val (.int (5 : Int32)), .val (.ref (ad5 Z a0))]) d7_34 rfl (by decide) rfl rfl ?_
  refine g_goto X11 K (q := 9) d7_37 (by decide) (by decide) ?_
  refine g_iloadN X11 K (q := 10) d7_9 rfl rfl ?_
  refine g_iloadN X11 K (q := 11) d7_10 rfl rfl ?_
  refine g_icN X11 K (q := 14) d7_11 (by decide) rfl ?_
  refine g_aloadN X11 K (q := 15) d7_14 rfl rfl rfl ?_
  refine g_iloadN X11 K (q := 16) d7_15 rfl rfl ?_
  refine g_aald X11 K (q := 17) (v := (.ref (ad6 Z a0))) e11 g1 rfl (by decide) rfl d7_16 rfl ?_
  refine g_astore X11 K (q := 19) (L' := #[.val (.ref a1), .val (.ref bx1), .val (.int (6 : Int32)), .val (.int (5 : Int32)), .val (.ref (ad6 Z a0))]) d7_17 rfl rfl rfl ?_
  refine g_aload X11 K (q := 21) d7_19 rfl rfl rfl ?_
  refine g_getf X11 K (q := 24) (w57 H) Via.refl e11 ((f6_symbol H).ext Ol1.2) d7_21 rfl ?_
  intro T12 X12 e12
  refine g_aloadN X12 K (q := 25) d7_24 rfl rfl rfl ?_
  refine g_virtual X12 K (q := 28) (W := 0) (a := (ad12 Z a0)) (w59 H) (w60 H) (nf_self K (w62 H)) (w62 H) (w61 H) (w9 H) (w63 H) (by decide) (rm9_102 l H a1 a2 p1 p2 p3 k1 T1.heap Ol1 ge_1 f1 f2 f3 f4) e12 ((x12 H).ext Ol1.2) rfl (argsL := [(.ref a1)]) (rest := []) (lenOf pd_7 rfl) rfl rfl (Nat.le_of_eq rfl) d7_25 (by decide) (by decide) (by decide) (by decide) rfl ?_
  rintro T13 v13 L13 X13 ⟨rfl, N13q, e13⟩
  have N13 := Fr.app N11 N13q
  show Go p e below _ T13 (mkF m 28 #[.val (.ref a1), .val (.ref bx1), .val (.int (6 : Int32)), .val (.int (5 : Int32)), .val (.ref (ad6 Z a0))] [(.int (0 : Int32))])
  refine g_ifY X13 K (q := 34) d7_28 (by decide) (by decide) (by decide) ?_
  refine g_iinc X13 K (q := 37) (z := (6 : Int32)) (L' := #[.val (.ref a1), .val (.ref bx1), .val (.int (6 : Int32)), .val (.int (6 : Int32)), .val (.ref (ad6 Z a0))]) d7_34 rfl (by decide) rfl rfl ?_
  refine g_goto X13 K (q := 9) d7_37 (by decide) (by decide) ?_
  refine g_iloadN X13 K (q := 10) d7_9 rfl rfl ?_
  refine g_iloadN X13 K (q := 11) d7_10 rfl rfl ?_
  refine g_icY X13 K (q := 40) d7_11 (by decide) (by decide) (by decide) ?_
  refine g_null X13 K (q := 41) d7_40 rfl ?_
  refine g_aret X13 K rfl rfl rfl d7_41 (by decide) (by decide) ?_
  have Kp : Keep h0 T13.heap [] := by rw [e13]; exact Kp1
  exact ⟨rfl, N13, Kp⟩
set_option maxRecDepth 65536 in
set_option maxHeartbeats 40000000 in
theorem rm9_104 (l : Launch) {Z : State} {a0 : Array Value} (H : Hyp Z a0) (h0 : Heap) (Ol : Old Z Z.heap.size h0) :
    Mt l Z (⟨"java/lang/String", "equals", "(Ljava/lang/Object;)Z"⟩ : MethodName) jdk_42_method_66_code 3 (some .boolean) [] ({ frames := 0, cells := 0, slots := 0, locals := 0 } : Room) #[(.ref (ad7 Z a0)), .null] h0 (fun v h L => (v = some (.int (0 : Int32)) ∧ Fr Z.heap.size L ∧ h = h0)) := by
  refine g_body (plainFor_of_name pn_java_lang_String) ?_
  intro p e s m below meth c T0 K X0 e0
  refine g_entry (ef_24 m (ad7 Z a0)) ?_
  have Ol0 := Ol
  refine g_aloadN X0 K (q := 1) d9_0 rfl rfl rfl ?_
  refine g_aloadN X0 K (q := 2) d9_1 rfl rfl rfl ?_
  refine g_ac X0 K (q := 7) (same := false) d9_2 rfl rfl (decide_eq_false nofun) (by decide) (by decide) ?_
  refine g_aloadN X0 K (q := 8) d9_7 rfl rfl rfl ?_
  refine g_instNull X0 K (q := 11) d9_8 rfl ?_
  refine g_ifY X0 K (q := 54) d9_11 (by decide) (by decide) (by decide) ?_
  refine g_iconst X0 K (q := 55) (v := (0 : Int32)) d9_54 (by decide) rfl ?_
  refine g_nret X0 K (by simp) (z' := (0 : Int32)) (by decide) d9_55 (by decide) (by decide) ?_
  exact ⟨rfl, (Fr.nil _), e0⟩
set_option maxRecDepth 65536 in
set_option maxHeartbeats 40000000 in
theorem rm9_105 (l : Launch) {Z : State} {a0 : Array Value} (H : Hyp Z a0) (h0 : Heap) (Ol : Old Z Z.heap.size h0) :
    Mt l Z (⟨"java/lang/String", "equals", "(Ljava/lang/Object;)Z"⟩ : MethodName) jdk_42_method_66_code 3 (some .boolean) [] ({ frames := 0, cells := 0, slots := 0, locals := 0 } : Room) #[(.ref (ad8 Z a0)), .null] h0 (fun v h L => (v = some (.int (0 : Int32)) ∧ Fr Z.heap.size L ∧ h = h0)) := by
  refine g_body (plainFor_of_name pn_java_lang_String) ?_
  intro p e s m below meth c T0 K X0 e0
  refine g_entry (ef_24 m (ad8 Z a0)) ?_
  have Ol0 := Ol
  refine g_aloadN X0 K (q := 1) d9_0 rfl rfl rfl ?_
  refine g_aloadN X0 K (q := 2) d9_1 rfl rfl rfl ?_
  refine g_ac X0 K (q := 7) (same := false) d9_2 rfl rfl (decide_eq_false nofun) (by decide) (by decide) ?_
  refine g_aloadN X0 K (q := 8) d9_7 rfl rfl rfl ?_
  refine g_instNull X0 K (q := 11) d9_8 rfl ?_
  refine g_ifY X0 K (q := 54) d9_11 (by decide) (by decide) (by decide) ?_
  refine g_iconst X0 K (q := 55) (v := (0 : Int32)) d9_54 (by decide) rfl ?_
  refine g_nret X0 K (by simp) (z' := (0 : Int32)) (by decide) d9_55 (by decide) (by decide) ?_
  exact ⟨rfl, (Fr.nil _), e0⟩
set_option maxRecDepth 65536 in
set_option maxHeartbeats 40000000 in
theorem rm9_106 (l : Launch) {Z : State} {a0 : Array Value} (H : Hyp Z a0) (h0 : Heap) (Ol : Old Z Z.heap.size h0) :
    Mt l Z (⟨"java/lang/String", "equals", "(Ljava/lang/Object;)Z"⟩ : MethodName) jdk_42_method_66_code 3 (some .boolean) [] ({ frames := 0, cells := 0, slots := 0, locals := 0 } : Room) #[(.ref (ad9 Z a0)), .null] h0 (fun v h L => (v = some (.int (0 : Int32)) ∧ Fr Z.heap.size L ∧ h = h0)) := by
  refine g_body (plainFor_of_name pn_java_lang_String) ?_
  intro p e s m below meth c T0 K X0 e0
  refine g_entry (ef_24 m (ad9 Z a0)) ?_
  have Ol0 := Ol
  refine g_aloadN X0 K (q := 1) d9_0 rfl rfl rfl ?_
  refine g_aloadN X0 K (q := 2) d9_1 rfl rfl rfl ?_
  refine g_ac X0 K (q := 7) (same := false) d9_2 rfl rfl (decide_eq_false nofun) (by decide) (by decide) ?_
  refine g_aloadN X0 K (q := 8) d9_7 rfl rfl rfl ?_
  refine g_instNull X0 K (q := 11) d9_8 rfl ?_
  refine g_ifY X0 K (q := 54) d9_11 (by decide) (by decide) (by decide) ?_
  refine g_iconst X0 K (q := 55) (v := (0 : Int32)) d9_54 (by decide) rfl ?_
  refine g_nret X0 K (by simp) (z' := (0 : Int32)) (by decide) d9_55 (by decide) (by decide) ?_
  exact ⟨rfl, (Fr.nil _), e0⟩
set_option maxRecDepth 65536 in
set_option maxHeartbeats 40000000 in
theorem rm9_107 (l : Launch) {Z : State} {a0 : Array Value} (H : Hyp Z a0) (h0 : Heap) (Ol : Old Z Z.heap.size h0) :
    Mt l Z (⟨"java/lang/String", "equals", "(Ljava/lang/Object;)Z"⟩ : MethodName) jdk_42_method_66_code 3 (some .boolean) [] ({ frames := 0, cells := 0, slots := 0, locals := 0 } : Room) #[(.ref (ad10 Z a0)), .null] h0 (fun v h L => (v = some (.int (0 : Int32)) ∧ Fr Z.heap.size L ∧ h = h0)) := by
  refine g_body (plainFor_of_name pn_java_lang_String) ?_
  intro p e s m below meth c T0 K X0 e0
  refine g_entry (ef_24 m (ad10 Z a0)) ?_
  have Ol0 := Ol
  refine g_aloadN X0 K (q := 1) d9_0 rfl rfl rfl ?_
  refine g_aloadN X0 K (q := 2) d9_1 rfl rfl rfl ?_
  refine g_ac X0 K (q := 7) (same := false) d9_2 rfl rfl (decide_eq_false nofun) (by decide) (by decide) ?_
  refine g_aloadN X0 K (q := 8) d9_7 rfl rfl rfl ?_
  refine g_instNull X0 K (q := 11) d9_8 rfl ?_
  refine g_ifY X0 K (q := 54) d9_11 (by decide) (by decide) (by decide) ?_
  refine g_iconst X0 K (q := 55) (v := (0 : Int32)) d9_54 (by decide) rfl ?_
  refine g_nret X0 K (by simp) (z' := (0 : Int32)) (by decide) d9_55 (by decide) (by decide) ?_
  exact ⟨rfl, (Fr.nil _), e0⟩
set_option maxRecDepth 65536 in
set_option maxHeartbeats 40000000 in
theorem rm9_108 (l : Launch) {Z : State} {a0 : Array Value} (H : Hyp Z a0) (h0 : Heap) (Ol : Old Z Z.heap.size h0) :
    Mt l Z (⟨"java/lang/String", "equals", "(Ljava/lang/Object;)Z"⟩ : MethodName) jdk_42_method_66_code 3 (some .boolean) [] ({ frames := 0, cells := 0, slots := 0, locals := 0 } : Room) #[(.ref (ad11 Z a0)), .null] h0 (fun v h L => (v = some (.int (0 : Int32)) ∧ Fr Z.heap.size L ∧ h = h0)) := by
  refine g_body (plainFor_of_name pn_java_lang_String) ?_
  intro p e s m below meth c T0 K X0 e0
  refine g_entry (ef_24 m (ad11 Z a0)) ?_
  have Ol0 := Ol
  refine g_aloadN X0 K (q := 1) d9_0 rfl rfl rfl ?_
  refine g_aloadN X0 K (q := 2) d9_1 rfl rfl rfl ?_
  refine g_ac X0 K (q := 7) (same := false) d9_2 rfl rfl (decide_eq_false nofun) (by decide) (by decide) ?_
  refine g_aloadN X0 K (q := 8) d9_7 rfl rfl rfl ?_
  refine g_instNull X0 K (q := 11) d9_8 rfl ?_
  refine g_ifY X0 K (q := 54) d9_11 (by decide) (by decide) (by decide) ?_
  refine g_iconst X0 K (q := 55) (v := (0 : Int32)) d9_54 (by decide) rfl ?_
  refine g_nret X0 K (by simp) (z' := (0 : Int32)) (by decide) d9_55 (by decide) (by decide) ?_
  exact ⟨rfl, (Fr.nil _), e0⟩
set_option maxRecDepth 65536 in
set_option maxHeartbeats 40000000 in
theorem rm9_109 (l : Launch) {Z : State} {a0 : Array Value} (H : Hyp Z a0) (h0 : Heap) (Ol : Old Z Z.heap.size h0) :
    Mt l Z (⟨"java/lang/String", "equals", "(Ljava/lang/Object;)Z"⟩ : MethodName) jdk_42_method_66_code 3 (some .boolean) [] ({ frames := 0, cells := 0, slots := 0, locals := 0 } : Room) #[(.ref (ad12 Z a0)), .null] h0 (fun v h L => (v = some (.int (0 : Int32)) ∧ Fr Z.heap.size L ∧ h = h0)) := by
  refine g_body (plainFor_of_name pn_java_lang_String) ?_
  intro p e s m below meth c T0 K X0 e0
  refine g_entry (ef_24 m (ad12 Z a0)) ?_
  have Ol0 := Ol
  refine g_aloadN X0 K (q := 1) d9_0 rfl rfl rfl ?_
  refine g_aloadN X0 K (q := 2) d9_1 rfl rfl rfl ?_
  refine g_ac X0 K (q := 7) (same := false) d9_2 rfl rfl (decide_eq_false nofun) (by decide) (by decide) ?_
  refine g_aloadN X0 K (q := 8) d9_7 rfl rfl rfl ?_
  refine g_instNull X0 K (q := 11) d9_8 rfl ?_
  refine g_ifY X0 K (q := 54) d9_11 (by decide) (by decide) (by decide) ?_
  refine g_iconst X0 K (q := 55) (v := (0 : Int32)) d9_54 (by decide) rfl ?_
  refine g_nret X0 K (by simp) (z' := (0 : Int32)) (by decide) d9_55 (by decide) (by decide) ?_
  exact ⟨rfl, (Fr.nil _), e0⟩
set_option maxRecDepth 65536 in
set_option maxHeartbeats 40000000 in
theorem rm7_110 (l : Launch) {Z : State} {a0 : Array Value} (H : Hyp Z a0) (h0 : Heap) (Ol : Old Z Z.heap.size h0) :
    Mt l Z (⟨"com/example/annotable/annotable/PathQuery$Comparison", "of", "(Ljava/lang/String;)Lcom/example/annotable/annotable/PathQuery$Comparison;"⟩ : MethodName) prog_16_method_6_code 5 (some (.object "com/example/annotable/annotable/PathQuery$Comparison")) [] ({ frames := 2, cells := 1, slots := 6, locals := 25 } : Room) #[.null] h0 (fun v h L => (v = some .null ∧ Fr Z.heap.size L ∧ Keep h0 h [])) := by
  refine g_body (plainFor_of_name pn_com_example_annotable_annotable_PathQuery_Comparison) ?_
  intro p e s m below meth c T0 K X0 e0
  refine g_entry (ef_25 m) ?_
  have Ol0 := Ol
  refine g_static X0 K (q := 3) (W := 0) (w36 H) (w37 H) (w34 H) (w38 H) (by decide) (rm8_6 l H h0 Ol0) e0 rfl (argsL := []) (rest := []) (lenOf pd_5 rfl) rfl rfl (Nat.le_of_eq rfl) d7_0 (by decide) (by decide) (by decide) (by decide) rfl ?_
  rintro T1 v1 L1 X1 ⟨bx1, rfl, N1q, Kc1, lz1_0, g1, g2⟩
  have szbx1 := Nat.le_trans (Keep.refl h0 []).1 lz1_0
  have gebx1 := Nat.le_trans Ol0.2.1 lz1_0
  have so1 := Sd.one bx1
  obtain ⟨N1, Ol1, Kp1⟩ := ivK (Fr.nil _) Ol0 (Keep.refl h0 []) N1q Kc1 all0 all0
  show Go p e below _ T1 (mkF m 3 #[.val .null, .unset, .unset, .unset, .unset] [(.ref bx1)])
  refine g_astoreN X1 K (q := 4) (L' := #[.val .null, .val (.ref bx1), .unset, .unset, .unset]) d7_3 rfl rfl rfl ?_
  refine g_aloadN X1 K (q := 5) d7_4 rfl rfl rfl ?_
  refine g_len X1 K (q := 6) rfl g1 d7_5 rfl ?_
  refine g_istoreN X1 K (q := 7) (L' := #[.val .null, .val (.ref bx1), .val (.int (6 : Int32)), .unset, .unset]) d7_6 rfl rfl ?_
  refine g_iconst X1 K (q := 8) (v := (0 : Int32)) d7_7 (by decide) rfl ?_
  refine g_istoreN X1 K (q := 9) (L' := #[.val .null, .val (.ref bx1), .val (.int (6 : Int32)), .val (.int (0 : Int32)), .unset]) d7_8 rfl rfl ?_
  refine g_iloadN X1 K (q := 10) d7_9 rfl rfl ?_
  refine g_iloadN X1 K (q := 11) d7_10 rfl rfl ?_
  refine g_icN X1 K (q := 14) d7_11 (by decide) rfl ?_
  refine g_aloadN X1 K (q := 15) d7_14 rfl rfl rfl ?_
  refine g_iloadN X1 K (q := 16) d7_15 rfl rfl ?_
  refine g_aald X1 K (q := 17) (v := (.ref (ad1 Z a0))) rfl g1 rfl (by decide) rfl d7_16 rfl ?_
  refine g_astore X1 K (q := 19) (L' := #[.val .null, .val (.ref bx1), .val (.int (6 : Int32)), .val (.int (0 : Int32)), .val (.ref (ad1 Z a0))]) d7_17 rfl rfl rfl ?_
  refine g_aload X1 K (q := 21) d7_19 rfl rfl rfl ?_
  refine g_getf X1 K (q := 24) (w57 H) Via.refl rfl ((f1_symbol H).ext Ol1.2) d7_21 rfl ?_
  intro T2 X2 e2
  refine g_aloadN X2 K (q := 25) d7_24 rfl rfl rfl ?_
  refine g_virtual X2 K (q := 28) (W := 0) (a := (ad7 Z a0)) (w59 H) (w60 H) (nf_self K (w62 H)) (w62 H) (w61 H) (w9 H) (w63 H) (by decide) (rm9_104 l H T1.heap Ol1) e2 ((x7 H).ext Ol1.2) rfl (argsL := [.null]) (rest := []) (lenOf pd_7 rfl) rfl rfl (Nat.le_of_eq rfl) d7_25 (by decide) (by decide) (by decide) (by decide) rfl ?_
  rintro T3 v3 L3 X3 ⟨rfl, N3q, e3⟩
  have N3 := Fr.app N1 N3q
  show Go p e below _ T3 (mkF m 28 #[.val .null, .val (.ref bx1), .val (.int (6 : Int32)), .val (.int (0 : Int32)), .val (.ref (ad1 Z a0))] [(.int (0 : Int32))])
  refine g_ifY X3 K (q := 34) d7_28 (by decide) (by decide) (by decide) ?_
  refine g_iinc X3 K (q := 37) (z := (1 : Int32)) (L' := #[.val .null, .val (.ref bx1), .val (.int (6 : Int32)), .val (.int (1 : Int32)), .val (.ref (ad1 Z a0))]) d7_34 rfl (by decide) rfl rfl ?_
  refine g_goto X3 K (q := 9) d7_37 (by decide) (by decide) ?_
  refine g_iloadN X3 K (q := 10) d7_9 rfl rfl ?_
  refine g_iloadN X3 K (q := 11) d7_10 rfl rfl ?_
  refine g_icN X3 K (q := 14) d7_11 (by decide) rfl ?_
  refine g_aloadN X3 K (q := 15) d7_14 rfl rfl rfl ?_
  refine g_iloadN X3 K (q := 16) d7_15 rfl rfl ?_
  refine g_aald X3 K (q := 17) (v := (.ref (ad2 Z a0))) e3 g1 rfl (by decide) rfl d7_16 rfl ?_
  refine g_astore X3 K (q := 19) (L' := #[.val .null, .val (.ref bx1), .val (.int (6 : Int32)), .val (.int (1 : Int32)), .val (.ref (ad2 Z a0))]) d7_17 rfl rfl rfl ?_
  refine g_aload X3 K (q := 21) d7_19 rfl rfl rfl ?_
  refine g_getf X3 K (q := 24) (w57 H) Via.refl e3 ((f2_symbol H).ext Ol1.2) d7_21 rfl ?_
  intro T4 X4 e4
  refine g_aloadN X4 K (q := 25) d7_24 rfl rfl rfl ?_
  refine g_virtual X4 K (q := 28) (W := 0) (a := (ad8 Z a0)) (w59 H) (w60 H) (nf_self K (w62 H)) (w62 H) (w61 H) (w9 H) (w63 H) (by decide) (rm9_105 l H T1.heap Ol1) e4 ((x8 H).ext Ol1.2) rfl (argsL := [.null]) (rest := []) (lenOf pd_7 rfl) rfl rfl (Nat.le_of_eq rfl) d7_25 (by decide) (by decide) (by decide) (by decide) rfl ?_
  rintro T5 v5 L5 X5 ⟨rfl, N5q, e5⟩
  have N5 := Fr.app N3 N5q
  show Go p e below _ T5 (mkF m 28 #[.val .null, .val (.ref bx1), .val (.int (6 : Int32)), .val (.int (1 : Int32)), .val (.ref (ad2 Z a0))] [(.int (0 : Int32))])
  refine g_ifY X5 K (q := 34) d7_28 (by decide) (by decide) (by decide) ?_
  refine g_iinc X5 K (q := 37) (z := (2 : Int32)) (L' := #[.val .null, .val (.ref bx1), .val (.int (6 : Int32)), .val (.int (2 : Int32)), .val (.ref (ad2 Z a0))]) d7_34 rfl (by decide) rfl rfl ?_
  refine g_goto X5 K (q := 9) d7_37 (by decide) (by decide) ?_
  refine g_iloadN X5 K (q := 10) d7_9 rfl rfl ?_
  refine g_iloadN X5 K (q := 11) d7_10 rfl rfl ?_
  refine g_icN X5 K (q := 14) d7_11 (by decide) rfl ?_
  refine g_aloadN X5 K (q := 15) d7_14 rfl rfl rfl ?_
  refine g_iloadN X5 K (q := 16) d7_15 rfl rfl ?_
  refine g_aald X5 K (q := 17) (v := (.ref (ad3 Z a0))) e5 g1 rfl (by decide) rfl d7_16 rfl ?_
  refine g_astore X5 K (q := 19) (L' := #[.val .null, .val (.ref bx1), .val (.int (6 : Int32)), .val (.int (2 : Int32)), .val (.ref (ad3 Z a0))]) d7_17 rfl rfl rfl ?_
  refine g_aload X5 K (q := 21) d7_19 rfl rfl rfl ?_
  refine g_getf X5 K (q := 24) (w57 H) Via.refl e5 ((f3_symbol H).ext Ol1.2) d7_21 rfl ?_
  intro T6 X6 e6
  refine g_aloadN X6 K (q := 25) d7_24 rfl rfl rfl ?_
  refine g_virtual X6 K (q := 28) (W := 0) (a := (ad9 Z a0)) (w59 H) (w60 H) (nf_self K (w62 H)) (w62 H) (w61 H) (w9 H) (w63 H) (by decide) (rm9_106 l H T1.heap Ol1) e6 ((x9 H).ext Ol1.2) rfl (argsL := [.null]) (rest := []) (lenOf pd_7 rfl) rfl rfl (Nat.le_of_eq rfl) d7_25 (by decide) (by decide) (by decide) (by decide) rfl ?_
  rintro T7 v7 L7 X7 ⟨rfl, N7q, e7⟩
  have N7 := Fr.app N5 N7q
  show Go p e below _ T7 (mkF m 28 #[.val .null, .val (.ref bx1), .val (.int (6 : Int32)), .val (.int (2 : Int32)), .val (.ref (ad3 Z a0))] [(.int (0 : Int32))])
  refine g_ifY X7 K (q := 34) d7_28 (by decide) (by decide) (by decide) ?_
  refine g_iinc X7 K (q := 37) (z := (3 : Int32)) (L' := #[.val .null, .val (.ref bx1), .val (.int (6 : Int32)), .val (.int (3 : Int32)), .val (.ref (ad3 Z a0))]) d7_34 rfl (by decide) rfl rfl ?_
  refine g_goto X7 K (q := 9) d7_37 (by decide) (by decide) ?_
  refine g_iloadN X7 K (q := 10) d7_9 rfl rfl ?_
  refine g_iloadN X7 K (q := 11) d7_10 rfl rfl ?_
  refine g_icN X7 K (q := 14) d7_11 (by decide) rfl ?_
  refine g_aloadN X7 K (q := 15) d7_14 rfl rfl rfl ?_
  refine g_iloadN X7 K (q := 16) d7_15 rfl rfl ?_
  refine g_aald X7 K (q := 17) (v := (.ref (ad4 Z a0))) e7 g1 rfl (by decide) rfl d7_16 rfl ?_
  refine g_astore X7 K (q := 19) (L' := #[.val .null, .val (.ref bx1), .val (.int (6 : Int32)), .val (.int (3 : Int32)), .val (.ref (ad4 Z a0))]) d7_17 rfl rfl rfl ?_
  refine g_aload X7 K (q := 21) d7_19 rfl rfl rfl ?_
  refine g_getf X7 K (q := 24) (w57 H) Via.refl e7 ((f4_symbol H).ext Ol1.2) d7_21 rfl ?_
  intro T8 X8 e8
  refine g_aloadN X8 K (q := 25) d7_24 rfl rfl rfl ?_
  refine g_virtual X8 K (q := 28) (W := 0) (a := (ad10 Z a0)) (w59 H) (w60 H) (nf_self K (w62 H)) (w62 H) (w61 H) (w9 H) (w63 H) (by decide) (rm9_107 l H T1.heap Ol1) e8 ((x10 H).ext Ol1.2) rfl (argsL := [.null]) (rest := []) (lenOf pd_7 rfl) rfl rfl (Nat.le_of_eq rfl) d7_25 (by decide) (by decide) (by decide) (by decide) rfl ?_
  rintro T9 v9 L9 X9 ⟨rfl, N9q, e9⟩
  have N9 := Fr.app N7 N9q
  show Go p e below _ T9 (mkF m 28 #[.val .null, .val (.ref bx1), .val (.int (6 : Int32)), .val (.int (3 : Int32)), .val (.ref (ad4 Z a0))] [(.int (0 : Int32))])
  refine g_ifY X9 K (q := 34) d7_28 (by decide) (by decide) (by decide) ?_
  refine g_iinc X9 K (q := 37) (z := (4 : Int32)) (L' := #[.val .null, .val (.ref bx1), .val (.int (6 : Int32)), .val (.int (4 : Int32)), .val (.ref (ad4 Z a0))]) d7_34 rfl (by decide) rfl rfl ?_
  refine g_goto X9 K (q := 9) d7_37 (by decide) (by decide) ?_
  refine g_iloadN X9 K (q := 10) d7_9 rfl rfl ?_
  refine g_iloadN X9 K (q := 11) d7_10 rfl rfl ?_
  refine g_icN X9 K (q := 14) d7_11 (by decide) rfl ?_
  refine g_aloadN X9 K (q := 15) d7_14 rfl rfl rfl ?_
  refine g_iloadN X9 K (q := 16) d7_15 rfl rfl ?_
  refine g_aald X9 K (q := 17) (v := (.ref (ad5 Z a0))) e9 g1 rfl (by decide) rfl d7_16 rfl ?_
  refine g_astore X9 K (q := 19) (L' := #[.val .null, .val (.ref bx1), .val (.int (6 : Int32)), .val (.int (4 : Int32)), .val (.ref (ad5 Z a0))]) d7_17 rfl rfl rfl ?_
  refine g_aload X9 K (q := 21) d7_19 rfl rfl rfl ?_
  refine g_getf X9 K (q := 24) (w57 H) Via.refl e9 ((f5_symbol H).ext Ol1.2) d7_21 rfl ?_
  intro T10 X10 e10
  refine g_aloadN X10 K (q := 25) d7_24 rfl rfl rfl ?_
  refine g_virtual X10 K (q := 28) (W := 0) (a := (ad11 Z a0)) (w59 H) (w60 H) (nf_self K (w62 H)) (w62 H) (w61 H) (w9 H) (w63 H) (by decide) (rm9_108 l H T1.heap Ol1) e10 ((x11 H).ext Ol1.2) rfl (argsL := [.null]) (rest := []) (lenOf pd_7 rfl) rfl rfl (Nat.le_of_eq rfl) d7_25 (by decide) (by decide) (by decide) (by decide) rfl ?_
  rintro T11 v11 L11 X11 ⟨rfl, N11q, e11⟩
  have N11 := Fr.app N9 N11q
  show Go p e below _ T11 (mkF m 28 #[.val .null, .val (.ref bx1), .val (.int (6 : Int32)), .val (.int (4 : Int32)), .val (.ref (ad5 Z a0))] [(.int (0 : Int32))])
  refine g_ifY X11 K (q := 34) d7_28 (by decide) (by decide) (by decide) ?_
  refine g_iinc X11 K (q := 37) (z := (5 : Int32)) (L' := #[.val .null, .val (.ref bx1), .val (.int (6 : Int32)), .val (.int (5 : Int32)), .val (.ref (ad5 Z a0))]) d7_34 rfl (by decide) rfl rfl ?_
  refine g_goto X11 K (q := 9) d7_37 (by decide) (by decide) ?_
  refine g_iloadN X11 K (q := 10) d7_9 rfl rfl ?_
  refine g_iloadN X11 K (q := 11) d7_10 rfl rfl ?_
  refine g_icN X11 K (q := 14) d7_11 (by decide) rfl ?_
  refine g_aloadN X11 K (q := 15) d7_14 rfl rfl rfl ?_
  refine g_iloadN X11 K (q := 16) d7_15 rfl rfl ?_
  refine g_aald X11 K (q := 17) (v := (.ref (ad6 Z a0))) e11 g1 rfl (by decide) rfl d7_16 rfl ?_
  refine g_astore X11 K (q := 19) (L' := #[.val .null, .val (.ref bx1), .val (.int (6 : Int32)), .val (.int (5 : Int32)), .val (.ref (ad6 Z a0))]) d7_17 rfl rfl rfl ?_
  refine g_aload X11 K (q := 21) d7_19 rfl rfl rfl ?_
  refine g_getf X11 K (q := 24) (w57 H) Via.refl e11 ((f6_symbol H).ext Ol1.2) d7_21 rfl ?_
  intro T12 X12 e12
  refine g_aloadN X12 K (q := 25) d7_24 rfl rfl rfl ?_
  refine g_virtual X12 K (q := 28) (W := 0) (a := (ad12 Z a0)) (w59 H) (w60 H) (nf_self K (w62 H)) (w62 H) (w61 H) (w9 H) (w63 H) (by decide) (rm9_109 l H T1.heap Ol1) e12 ((x12 H).ext Ol1.2) rfl (argsL := [.null]) (rest := []) (lenOf pd_7 rfl) rfl rfl (Nat.le_of_eq rfl) d7_25 (by decide) (by decide) (by decide) (by decide) rfl ?_
  rintro T13 v13 L13 X13 ⟨rfl, N13q, e13⟩
  have N13 := Fr.app N11 N13q
  show Go p e below _ T13 (mkF m 28 #[.val .null, .val (.ref bx1), .val (.int (6 : Int32)), .val (.int (5 : Int32)), .val (.ref (ad6 Z a0))] [(.int (0 : Int32))])
  refine g_ifY X13 K (q := 34) d7_28 (by decide) (by decide) (by decide) ?_
  refine g_iinc X13 K (q := 37) (z := (6 : Int32)) (L' := #[.val .null, .val (.ref bx1), .val (.int (6 : Int32)), .val (.int (6 : Int32)), .val (.ref (ad6 Z a0))]) d7_34 rfl (by decide) rfl rfl ?_
  refine g_goto X13 K (q := 9) d7_37 (by decide) (by decide) ?_
  refine g_iloadN X13 K (q := 10) d7_9 rfl rfl ?_
  refine g_iloadN X13 K (q := 11) d7_10 rfl rfl ?_
  refine g_icY X13 K (q := 40) d7_11 (by decide) (by decide) (by decide) ?_
  refine g_null X13 K (q := 41) d7_40 rfl ?_
  refine g_aret X13 K rfl rfl rfl d7_41 (by decide) (by decide) ?_
  have Kp : Keep h0 T13.heap [] := by rw [e13]; exact Kp1
  exact ⟨rfl, N13, Kp⟩
set_option maxRecDepth 65536 in
set_option maxHeartbeats 40000000 in
theorem rm0 (l : Launch) {Z : State} {a0 : Array Value} (H : Hyp Z a0) (p0 : Int32) (p1 : Int32) (p2 : Int32) (p3 : Int32) (h0 : Heap) (Ol : Old Z Z.heap.size h0) :
    MtS l Z x code maxLocals ret tables_1 room_1 #[(.int p0), (.int p1), (.int p2), (.int p3)] h0 (fun v h L => v = some (.int 1) ∧ Fr Z.heap.size L) := by
  refine g_bodyS (bytes := code) (maxL := maxLocals) (ret := some .boolean) (plainFor_of_name pn_com_example_annotable_annotable_ComparisonOfPinLaw) ?_
  intro p e s m below meth c T0 K X0 e0 hs0 I0
  refine g_entry (ef_26 m p0 p1 p2 p3) ?_
  have Ol0 : Old Z Z.heap.size h0 := Ol
  refine g_iloadN X0 K (q := 1) at_0 rfl rfl ?_
  refine g_bipush X0 K (q := 3) (v := (7 : Int32)) at_1 (by decide) rfl ?_
  rcases own_mk8 p0 with hs1 | hs1 | hs1 | hs1 | hs1 | hs1 | hs1 | hs1
  · refine g_iand X0 K (q := 4) (z := (0 : Int32)) at_3 hs1 rfl ?_
    refine g_istore X0 K (q := 6) (L' := #[.val (.int p0), .val (.int p1), .val (.int p2), .val (.int p3), .val (.int (0 : Int32)), .unset, .unset, .unset, .unset, .unset, .unset, .unset]) at_4 rfl rfl ?_
    refine g_iload X0 K (q := 8) at_6 rfl rfl ?_
    refine g_bipush X0 K (q := 10) (v := (7 : Int32)) at_8 (by decide) rfl ?_
    refine g_icY X0 K (q := 17) at_10 (by decide) (by decide) (by decide) ?_
    refine g_iconst X0 K (q := 18) (v := (0 : Int32)) at_17 (by decide) rfl ?_
    refine g_istore X0 K (q := 20) (L' := #[.val (.int p0), .val (.int p1), .val (.int p2), .val (.int p3), .val (.int (0 : Int32)), .val (.int (0 : Int32)), .unset, .unset, .unset, .unset, .unset, .unset]) at_18 rfl rfl ?_
    refine g_iload X0 K (q := 22) at_20 rfl rfl ?_
    refine g_iconst X0 K (q := 23) (v := (4 : Int32)) at_22 (by decide) rfl ?_
    refine g_irem X0 K (q := 24) at_23 (by decide) (z := (0 : Int32)) (by decide) rfl ?_
    refine g_istore X0 K (q := 26) (L' := #[.val (.int p0), .val (.int p1), .val (.int p2), .val (.int p3), .val (.int (0 : Int32)), .val (.int (0 : Int32)), .val (.int (0 : Int32)), .unset, .unset, .unset, .unset, .unset]) at_24 rfl rfl ?_
    refine g_iloadN X0 K (q := 27) at_26 rfl rfl ?_
    refine g_static X0 K (q := 30) (W := 0) (w0 H) (w1 H) (w2 H) (w3 H) (by decide) (rm1_4 l H p1 h0 Ol0) e0 rfl (argsL := [(.int p1)]) (rest := []) (lenOf pd_2 rfl) rfl rfl (Nat.le_of_eq rfl) at_27 (by decide) (by decide) (by decide) (by decide) rfl ?_
    rintro T1 v1 L1 X1 ⟨rfl, N1q, e1⟩
    have N1 := Fr.app (Fr.nil _) N1q
    show Go p e below _ T1 (mkF m 30 #[.val (.int p0), .val (.int p1), .val (.int p2), .val (.int p3), .val (.int (0 : Int32)), .val (.int (0 : Int32)), .val (.int (0 : Int32)), .unset, .unset, .unset, .unset, .unset] [(.int (chF p1))])
    have bd0 := chF_bd p1
    have nr0 := chF_nar p1
    obtain ⟨c0, hc0⟩ : ∃ z, chF p1 = z := ⟨_, rfl⟩
    rw [hc0] at bd0 nr0 ⊢
    have gt0 : ¬ ((255 : Int32) < c0) := own_ngtI (m := 255) rfl (by omega)
    refine g_istore X1 K (q := 32) (L' := #[.val (.int p0), .val (.int p1), .val (.int p2), .val (.int p3), .val (.int (0 : Int32)), .val (.int (0 : Int32)), .val (.int (0 : Int32)), .val (.int c0), .unset, .unset, .unset, .unset]) at_30 rfl rfl ?_
    refine g_iloadN X1 K (q := 33) at_32 rfl rfl ?_
    refine g_static X1 K (q := 36) (W := 0) (w0 H) (w1 H) (w2 H) (w3 H) (by decide) (rm1_4 l H p2 h0 Ol0) e1 rfl (argsL := [(.int p2)]) (rest := []) (lenOf pd_2 rfl) rfl rfl (Nat.le_of_eq rfl) at_33 (by decide) (by decide) (by decide) (by decide) rfl ?_
    rintro T2 v2 L2 X2 ⟨rfl, N2q, e2⟩
    have N2 := Fr.app N1 N2q
    show Go p e below _ T2 (mkF m 36 #[.val (.int p0), .val (.int p1), .val (.int p2), .val (.int p3), .val (.int (0 : Int32)), .val (.int (0 : Int32)), .val (.int (0 : Int32)), .val (.int c0), .unset, .unset, .unset, .unset] [(.int (chF p2))])
    have bd1 := chF_bd p2
    have nr1 := chF_nar p2
    obtain ⟨c1, hc1⟩ : ∃ z, chF p2 = z := ⟨_, rfl⟩
    rw [hc1] at bd1 nr1 ⊢
    have gt1 : ¬ ((255 : Int32) < c1) := own_ngtI (m := 255) rfl (by omega)
    refine g_istore X2 K (q := 38) (L' := #[.val (.int p0), .val (.int p1), .val (.int p2), .val (.int p3), .val (.int (0 : Int32)), .val (.int (0 : Int32)), .val (.int (0 : Int32)), .val (.int c0), .val (.int c1), .unset, .unset, .unset]) at_36 rfl rfl ?_
    refine g_iloadN X2 K (q := 39) at_38 rfl rfl ?_
    refine g_static X2 K (q := 42) (W := 0) (w0 H) (w1 H) (w2 H) (w3 H) (by decide) (rm1_4 l H p3 h0 Ol0) e2 rfl (argsL := [(.int p3)]) (rest := []) (lenOf pd_2 rfl) rfl rfl (Nat.le_of_eq rfl) at_39 (by decide) (by decide) (by decide) (by decide) rfl ?_
    rintro T3 v3 L3 X3 ⟨rfl, N3q, e3⟩
    have N3 := Fr.app N2 N3q
    show Go p e below _ T3 (mkF m 42 #[.val (.int p0), .val (.int p1), .val (.int p2), .val (.int p3), .val (.int (0 : Int32)), .val (.int (0 : Int32)), .val (.int (0 : Int32)), .val (.int c0), .val (.int c1), .unset, .unset, .unset] [(.int (chF p3))])
    have bd2 := chF_bd p3
    have nr2 := chF_nar p3
    obtain ⟨c2, hc2⟩ : ∃ z, chF p3 = z := ⟨_, rfl⟩
    rw [hc2] at bd2 nr2 ⊢
    have gt2 : ¬ ((255 : Int32) < c2) := own_ngtI (m := 255) rfl (by omega)
    refine g_istore X3 K (q := 44) (L' := #[.val (.int p0), .val (.int p1), .val (.int p2), .val (.int p3), .val (.int (0 : Int32)), .val (.int (0 : Int32)), .val (.int (0 : Int32)), .val (.int c0), .val (.int c1), .val (.int c2), .unset, .unset]) at_42 rfl rfl ?_
    refine g_iload X3 K (q := 46) at_44 rfl rfl ?_
    refine g_ifY X3 K (q := 53) at_46 (by decide) (by decide) (by decide) ?_
    refine g_iload X3 K (q := 55) at_53 rfl rfl ?_
    refine g_iload X3 K (q := 57) at_55 rfl rfl ?_
    refine g_iload X3 K (q := 59) at_57 rfl rfl ?_
    refine g_iload X3 K (q := 61) at_59 rfl rfl ?_
    refine g_staticS X3 K (q := 64) (W := 0) I0 (w4 H) (w5 H) (w2 H) (w6 H) (by decide) (rmM0 l H c0 c1 c2 h0 Ol0) e3 rfl (argsL := [(.int (0 : Int32)), (.int c0), (.int c1), (.int c2)]) (rest := []) (lenOf pd_3 rfl) rfl rfl (Nat.le_of_eq rfl) at_61 (by decide) (by decide) (by decide) (by decide) rfl ?_
    rintro T4 vm4 v4 L4 X4 K hS4 ⟨bx4, by4, kB4, rfl, N4q, Kc4, lz4, g4E, g4V, g4C, g4A⟩
    have N4 := Fr.app N3 N4q
    have gebx4 := Nat.le_trans Ol0.2.1 lz4
    have so1 := Sd.one bx4
    have Ol4 := Ol0.keep Kc4 all0
    show Go p e below _ T4 (mkF m 64 #[.val (.int p0), .val (.int p1), .val (.int p2), .val (.int p3), .val (.int (0 : Int32)), .val (.int (0 : Int32)), .val (.int (0 : Int32)), .val (.int c0), .val (.int c1), .val (.int c2), .unset, .unset] [(.ref bx4)])
    refine g_astore X4 K (q := 66) (L' := #[.val (.int p0), .val (.int p1), .val (.int p2), .val (.int p3), .val (.int (0 : Int32)), .val (.int (0 : Int32)), .val (.int (0 : Int32)), .val (.int c0), .val (.int c1), .val (.int c2), .val (.ref bx4), .unset]) at_64 rfl rfl rfl ?_
    refine g_iload X4 K (q := 68) at_66 rfl rfl ?_
    refine g_ifY X4 K (q := 75) at_68 (by decide) (by decide) (by decide) ?_
    refine g_iload X4 K (q := 77) at_75 rfl rfl ?_
    refine g_iload X4 K (q := 79) at_77 rfl rfl ?_
    refine g_iload X4 K (q := 81) at_79 rfl rfl ?_
    refine g_static X4 K (q := 84) (W := 0) (w29 H) (w30 H) (w2 H) (w31 H) (by decide) (rm6_5 l H c0 c1 T4.heap Ol4) rfl rfl (argsL := [(.int (0 : Int32)), (.int c0), (.int c1)]) (rest := []) (lenOf pd_4 rfl) rfl rfl (Nat.le_of_eq rfl) at_81 (by decide) (by decide) (by decide) (by decide) rfl ?_
    rintro T5 v5 L5 X5 ⟨rfl, N5q, e5⟩
    have N5 := Fr.app N4 N5q
    show Go p e below _ T5 (mkF m 84 #[.val (.int p0), .val (.int p1), .val (.int p2), .val (.int p3), .val (.int (0 : Int32)), .val (.int (0 : Int32)), .val (.int (0 : Int32)), .val (.int c0), .val (.int c1), .val (.int c2), .val (.ref bx4), .unset] [.null])
    refine g_astore X5 K (q := 86) (L' := #[.val (.int p0), .val (.int p1), .val (.int p2), .val (.int p3), .val (.int (0 : Int32)), .val (.int (0 : Int32)), .val (.int (0 : Int32)), .val (.int c0), .val (.int c1), .val (.int c2), .val (.ref bx4), .val .null]) at_84 rfl rfl rfl ?_
    refine g_aload X5 K (q := 88) at_86 rfl rfl rfl ?_
    refine g_static X5 K (q := 91) (W := 0) (w32 H) (w33 H) (w34 H) (w35 H) (by decide) (rm7_19 l H bx4 by4 kB4 T4.heap Ol4 g4C g4V g4A gebx4 g4E) e5 rfl (argsL := [(.ref bx4)]) (rest := []) (lenOf pd_8 rfl) rfl rfl (Nat.le_of_eq rfl) at_88 (by decide) (by decide) (by decide) (by decide) rfl ?_
    rintro T6 v6 L6 X6 ⟨rfl, N6q, Kc6⟩
    have N6 := Fr.app N5 N6q
    have Ol6 := Ol4.keep Kc6 all0
    show Go p e below _ T6 (mkF m 91 #[.val (.int p0), .val (.int p1), .val (.int p2), .val (.int p3), .val (.int (0 : Int32)), .val (.int (0 : Int32)), .val (.int (0 : Int32)), .val (.int c0), .val (.int c1), .val (.int c2), .val (.ref bx4), .val .null] [.null])
    refine g_aload X6 K (q := 93) at_91 rfl rfl rfl ?_
    refine g_ac X6 K (q := 96) (same := true) at_93 rfl rfl (decide_eq_true rfl) (by decide) (by decide) ?_
    refine g_iconst X6 K (q := 97) (v := (1 : Int32)) at_96 (by decide) rfl ?_
    refine g_goto X6 K (q := 101) at_97 (by decide) (by decide) ?_
    have hk : T4.heap.size ≤ T6.heap.size := Kc6.1
    refine g_nretS X6 K hS4 hk (by simp) (z' := (1 : Int32)) (by decide) at_101 (by decide) (by decide) ?_
    exact ⟨rfl, N6⟩
  · refine g_iand X0 K (q := 4) (z := (1 : Int32)) at_3 hs1 rfl ?_
    refine g_istore X0 K (q := 6) (L' := #[.val (.int p0), .val (.int p1), .val (.int p2), .val (.int p3), .val (.int (1 : Int32)), .unset, .unset, .unset, .unset, .unset, .unset, .unset]) at_4 rfl rfl ?_
    refine g_iload X0 K (q := 8) at_6 rfl rfl ?_
    refine g_bipush X0 K (q := 10) (v := (7 : Int32)) at_8 (by decide) rfl ?_
    refine g_icY X0 K (q := 17) at_10 (by decide) (by decide) (by decide) ?_
    refine g_iconst X0 K (q := 18) (v := (0 : Int32)) at_17 (by decide) rfl ?_
    refine g_istore X0 K (q := 20) (L' := #[.val (.int p0), .val (.int p1), .val (.int p2), .val (.int p3), .val (.int (1 : Int32)), .val (.int (0 : Int32)), .unset, .unset, .unset, .unset, .unset, .unset]) at_18 rfl rfl ?_
    refine g_iload X0 K (q := 22) at_20 rfl rfl ?_
    refine g_iconst X0 K (q := 23) (v := (4 : Int32)) at_22 (by decide) rfl ?_
    refine g_irem X0 K (q := 24) at_23 (by decide) (z := (1 : Int32)) (by decide) rfl ?_
    refine g_istore X0 K (q := 26) (L' := #[.val (.int p0), .val (.int p1), .val (.int p2), .val (.int p3), .val (.int (1 : Int32)), .val (.int (0 : Int32)), .val (.int (1 : Int32)), .unset, .unset, .unset, .unset, .unset]) at_24 rfl rfl ?_
    refine g_iloadN X0 K (q := 27) at_26 rfl rfl ?_
    refine g_static X0 K (q := 30) (W := 0) (w0 H) (w1 H) (w2 H) (w3 H) (by decide) (rm1_4 l H p1 h0 Ol0) e0 rfl (argsL := [(.int p1)]) (rest := []) (lenOf pd_2 rfl) rfl rfl (Nat.le_of_eq rfl) at_27 (by decide) (by decide) (by decide) (by decide) rfl ?_
    rintro T7 v7 L7 X7 ⟨rfl, N7q, e7⟩
    have N7 := Fr.app (Fr.nil _) N7q
    show Go p e below _ T7 (mkF m 30 #[.val (.int p0), .val (.int p1), .val (.int p2), .val (.int p3), .val (.int (1 : Int32)), .val (.int (0 : Int32)), .val (.int (1 : Int32)), .unset, .unset, .unset, .unset, .unset] [(.int (chF p1))])
    have bd0 := chF_bd p1
    have nr0 := chF_nar p1
    obtain ⟨c0, hc0⟩ : ∃ z, chF p1 = z := ⟨_, rfl⟩
    rw [hc0] at bd0 nr0 ⊢
    have gt0 : ¬ ((255 : Int32) < c0) := own_ngtI (m := 255) rfl (by omega)
    refine g_istore X7 K (q := 32) (L' := #[.val (.int p0), .val (.int p1), .val (.int p2), .val (.int p3), .val (.int (1 : Int32)), .val (.int (0 : Int32)), .val (.int (1 : Int32)), .val (.int c0), .unset, .unset, .unset, .unset]) at_30 rfl rfl ?_
    refine g_iloadN X7 K (q := 33) at_32 rfl rfl ?_
    refine g_static X7 K (q := 36) (W := 0) (w0 H) (w1 H) (w2 H) (w3 H) (by decide) (rm1_4 l H p2 h0 Ol0) e7 rfl (argsL := [(.int p2)]) (rest := []) (lenOf pd_2 rfl) rfl rfl (Nat.le_of_eq rfl) at_33 (by decide) (by decide) (by decide) (by decide) rfl ?_
    rintro T8 v8 L8 X8 ⟨rfl, N8q, e8⟩
    have N8 := Fr.app N7 N8q
    show Go p e below _ T8 (mkF m 36 #[.val (.int p0), .val (.int p1), .val (.int p2), .val (.int p3), .val (.int (1 : Int32)), .val (.int (0 : Int32)), .val (.int (1 : Int32)), .val (.int c0), .unset, .unset, .unset, .unset] [(.int (chF p2))])
    have bd1 := chF_bd p2
    have nr1 := chF_nar p2
    obtain ⟨c1, hc1⟩ : ∃ z, chF p2 = z := ⟨_, rfl⟩
    rw [hc1] at bd1 nr1 ⊢
    have gt1 : ¬ ((255 : Int32) < c1) := own_ngtI (m := 255) rfl (by omega)
    refine g_istore X8 K (q := 38) (L' := #[.val (.int p0), .val (.int p1), .val (.int p2), .val (.int p3), .val (.int (1 : Int32)), .val (.int (0 : Int32)), .val (.int (1 : Int32)), .val (.int c0), .val (.int c1), .unset, .unset, .unset]) at_36 rfl rfl ?_
    refine g_iloadN X8 K (q := 39) at_38 rfl rfl ?_
    refine g_static X8 K (q := 42) (W := 0) (w0 H) (w1 H) (w2 H) (w3 H) (by decide) (rm1_4 l H p3 h0 Ol0) e8 rfl (argsL := [(.int p3)]) (rest := []) (lenOf pd_2 rfl) rfl rfl (Nat.le_of_eq rfl) at_39 (by decide) (by decide) (by decide) (by decide) rfl ?_
    rintro T9 v9 L9 X9 ⟨rfl, N9q, e9⟩
    have N9 := Fr.app N8 N9q
    show Go p e below _ T9 (mkF m 42 #[.val (.int p0), .val (.int p1), .val (.int p2), .val (.int p3), .val (.int (1 : Int32)), .val (.int (0 : Int32)), .val (.int (1 : Int32)), .val (.int c0), .val (.int c1), .unset, .unset, .unset] [(.int (chF p3))])
    have bd2 := chF_bd p3
    have nr2 := chF_nar p3
    obtain ⟨c2, hc2⟩ : ∃ z, chF p3 = z := ⟨_, rfl⟩
    rw [hc2] at bd2 nr2 ⊢
    have gt2 : ¬ ((255 : Int32) < c2) := own_ngtI (m := 255) rfl (by omega)
    refine g_istore X9 K (q := 44) (L' := #[.val (.int p0), .val (.int p1), .val (.int p2), .val (.int p3), .val (.int (1 : Int32)), .val (.int (0 : Int32)), .val (.int (1 : Int32)), .val (.int c0), .val (.int c1), .val (.int c2), .unset, .unset]) at_42 rfl rfl ?_
    refine g_iload X9 K (q := 46) at_44 rfl rfl ?_
    refine g_ifY X9 K (q := 53) at_46 (by decide) (by decide) (by decide) ?_
    refine g_iload X9 K (q := 55) at_53 rfl rfl ?_
    refine g_iload X9 K (q := 57) at_55 rfl rfl ?_
    refine g_iload X9 K (q := 59) at_57 rfl rfl ?_
    refine g_iload X9 K (q := 61) at_59 rfl rfl ?_
    refine g_static X9 K (q := 64) (W := 0) (w4 H) (w5 H) (w2 H) (w6 H) (by decide) (rm2_24 l H c0 c1 c2 h0 Ol0 gt0) e9 rfl (argsL := [(.int (1 : Int32)), (.int c0), (.int c1), (.int c2)]) (rest := []) (lenOf pd_3 rfl) rfl rfl (Nat.le_of_eq rfl) at_61 (by decide) (by decide) (by decide) (by decide) rfl ?_
    rintro T10 v10 L10 X10 ⟨bx1, bx2, kB1, rfl, N10q, Kc10, lz10_0, lz10_1, g1, g2, g3, g4⟩
    have N10 := Fr.app N9 N10q
    have gebx1 := Nat.le_trans Ol0.2.1 lz10_0
    have so2 := Sd.one bx1
    have gebx2 := Nat.le_trans gebx1 (Nat.le_of_lt lz10_1)
    have so3 := so2.cons lz10_1
    have Ol10 := Ol0.keep Kc10 all0
    show Go p e below _ T10 (mkF m 64 #[.val (.int p0), .val (.int p1), .val (.int p2), .val (.int p3), .val (.int (1 : Int32)), .val (.int (0 : Int32)), .val (.int (1 : Int32)), .val (.int c0), .val (.int c1), .val (.int c2), .unset, .unset] [(.ref bx1)])
    refine g_astore X10 K (q := 66) (L' := #[.val (.int p0), .val (.int p1), .val (.int p2), .val (.int p3), .val (.int (1 : Int32)), .val (.int (0 : Int32)), .val (.int (1 : Int32)), .val (.int c0), .val (.int c1), .val (.int c2), .val (.ref bx1), .unset]) at_64 rfl rfl rfl ?_
    refine g_iload X10 K (q := 68) at_66 rfl rfl ?_
    refine g_ifY X10 K (q := 75) at_68 (by decide) (by decide) (by decide) ?_
    refine g_iload X10 K (q := 77) at_75 rfl rfl ?_
    refine g_iload X10 K (q := 79) at_77 rfl rfl ?_
    refine g_iload X10 K (q := 81) at_79 rfl rfl ?_
    refine g_static X10 K (q := 84) (W := 0) (w29 H) (w30 H) (w2 H) (w31 H) (by decide) (rm6_25 l H c0 c1 T10.heap Ol10) rfl rfl (argsL := [(.int (1 : Int32)), (.int c0), (.int c1)]) (rest := []) (lenOf pd_4 rfl) rfl rfl (Nat.le_of_eq rfl) at_81 (by decide) (by decide) (by decide) (by decide) rfl ?_
    rintro T11 v11 L11 X11 (⟨hc1, rfl, N11q, e11⟩ | ⟨hc2, hc3, rfl, N11q, e11⟩ | ⟨hc4, hc5, hc6, rfl, N11q, e11⟩ | ⟨hc7, hc8, hc9, rfl, N11q, e11⟩)
    · have N11 := Fr.app N10 N11q
      show Go p e below _ T11 (mkF m 84 #[.val (.int p0), .val (.int p1), .val (.int p2), .val (.int p3), .val (.int (1 : Int32)), .val (.int (0 : Int32)), .val (.int (1 : Int32)), .val (.int c0), .val (.int c1), .val (.int c2), .val (.ref bx1), .unset] [(.ref (ad1 Z a0))])
      refine g_astore X11 K (q := 86) (L' := #[.val (.int p0), .val (.int p1), .val (.int p2), .val (.int p3), .val (.int (1 : Int32)), .val (.int (0 : Int32)), .val (.int (1 : Int32)), .val (.int c0), .val (.int c1), .val (.int c2), .val (.ref bx1), .val (.ref (ad1 Z a0))]) at_84 rfl rfl rfl ?_
      refine g_aload X11 K (q := 88) at_86 rfl rfl rfl ?_
      refine g_static X11 K (q := 91) (W := 0) (w32 H) (w33 H) (w34 H) (w35 H) (by decide) (rm7_28 l H bx1 bx2 c0.toInt8.toInt32 kB1 T10.heap Ol10 g3 g2 g4 ((b8 bd0 (n := 61) rfl (by decide)).mpr hc1) gebx1 g1) e11 rfl (argsL := [(.ref bx1)]) (rest := []) (lenOf pd_8 rfl) rfl rfl (Nat.le_of_eq rfl) at_88 (by decide) (by decide) (by decide) (by decide) rfl ?_
      rintro T12 v12 L12 X12 ⟨rfl, N12q, Kc12⟩
      have N12 := Fr.app N11 N12q
      have Ol12 := Ol10.keep Kc12 all0
      show Go p e below _ T12 (mkF m 91 #[.val (.int p0), .val (.int p1), .val (.int p2), .val (.int p3), .val (.int (1 : Int32)), .val (.int (0 : Int32)), .val (.int (1 : Int32)), .val (.int c0), .val (.int c1), .val (.int c2), .val (.ref bx1), .val (.ref (ad1 Z a0))] [(.ref (ad1 Z a0))])
      refine g_aload X12 K (q := 93) at_91 rfl rfl rfl ?_
      refine g_ac X12 K (q := 96) (same := true) at_93 rfl rfl (decide_eq_true rfl) (by decide) (by decide) ?_
      refine g_iconst X12 K (q := 97) (v := (1 : Int32)) at_96 (by decide) rfl ?_
      refine g_goto X12 K (q := 101) at_97 (by decide) (by decide) ?_
      refine goW ?_
      refine g_nret X12 K (by simp) (z' := (1 : Int32)) (by decide) at_101 (by decide) (by decide) ?_
      exact ⟨rfl, N12⟩
    · have N11 := Fr.app N10 N11q
      show Go p e below _ T11 (mkF m 84 #[.val (.int p0), .val (.int p1), .val (.int p2), .val (.int p3), .val (.int (1 : Int32)), .val (.int (0 : Int32)), .val (.int (1 : Int32)), .val (.int c0), .val (.int c1), .val (.int c2), .val (.ref bx1), .unset] [(.ref (ad3 Z a0))])
      refine g_astore X11 K (q := 86) (L' := #[.val (.int p0), .val (.int p1), .val (.int p2), .val (.int p3), .val (.int (1 : Int32)), .val (.int (0 : Int32)), .val (.int (1 : Int32)), .val (.int c0), .val (.int c1), .val (.int c2), .val (.ref bx1), .val (.ref (ad3 Z a0))]) at_84 rfl rfl rfl ?_
      refine g_aload X11 K (q := 88) at_86 rfl rfl rfl ?_
      refine g_static X11 K (q := 91) (W := 0) (w32 H) (w33 H) (w34 H) (w35 H) (by decide) (rm7_35 l H bx1 bx2 c0.toInt8.toInt32 kB1 T10.heap Ol10 g3 g2 g4 (fun z => hc2 ((b8 bd0 (n := 61) rfl (by decide)).mp z)) gebx1 g1 ((b8 bd0 (n := 60) rfl (by decide)).mpr hc3)) e11 rfl (argsL := [(.ref bx1)]) (rest := []) (lenOf pd_8 rfl) rfl rfl (Nat.le_of_eq rfl) at_88 (by decide) (by decide) (by decide) (by decide) rfl ?_
      rintro T13 v13 L13 X13 ⟨rfl, N13q, Kc13⟩
      have N13 := Fr.app N11 N13q
      have Ol13 := Ol10.keep Kc13 all0
      show Go p e below _ T13 (mkF m 91 #[.val (.int p0), .val (.int p1), .val (.int p2), .val (.int p3), .val (.int (1 : Int32)), .val (.int (0 : Int32)), .val (.int (1 : Int32)), .val (.int c0), .val (.int c1), .val (.int c2), .val (.ref bx1), .val (.ref (ad3 Z a0))] [(.ref (ad3 Z a0))])
      refine g_aload X13 K (q := 93) at_91 rfl rfl rfl ?_
      refine g_ac X13 K (q := 96) (same := true) at_93 rfl rfl (decide_eq_true rfl) (by decide) (by decide) ?_
      refine g_iconst X13 K (q := 97) (v := (1 : Int32)) at_96 (by decide) rfl ?_
      refine g_goto X13 K (q := 101) at_97 (by decide) (by decide) ?_
      refine goW ?_
      refine g_nret X13 K (by simp) (z' := (1 : Int32)) (by decide) at_101 (by decide) (by decide) ?_
      exact ⟨rfl, N13⟩
    · have N11 := Fr.app N10 N11q
      show Go p e below _ T11 (mkF m 84 #[.val (.int p0), .val (.int p1), .val (.int p2), .val (.int p3), .val (.int (1 : Int32)), .val (.int (0 : Int32)), .val (.int (1 : Int32)), .val (.int c0), .val (.int c1), .val (.int c2), .val (.ref bx1), .unset] [(.ref (ad5 Z a0))])
      refine g_astore X11 K (q := 86) (L' := #[.val (.int p0), .val (.int p1), .val (.int p2), .val (.int p3), .val (.int (1 : Int32)), .val (.int (0 : Int32)), .val (.int (1 : Int32)), .val (.int c0), .val (.int c1), .val (.int c2), .val (.ref bx1), .val (.ref (ad5 Z a0))]) at_84 rfl rfl rfl ?_
      refine g_aload X11 K (q := 88) at_86 rfl rfl rfl ?_
      refine g_static X11 K (q := 91) (W := 0) (w32 H) (w33 H) (w34 H) (w35 H) (by decide) (rm7_42 l H bx1 bx2 c0.toInt8.toInt32 kB1 T10.heap Ol10 g3 g2 g4 (fun z => hc4 ((b8 bd0 (n := 61) rfl (by decide)).mp z)) gebx1 g1 (fun z => hc5 ((b8 bd0 (n := 60) rfl (by decide)).mp z)) ((b8 bd0 (n := 62) rfl (by decide)).mpr hc6)) e11 rfl (argsL := [(.ref bx1)]) (rest := []) (lenOf pd_8 rfl) rfl rfl (Nat.le_of_eq rfl) at_88 (by decide) (by decide) (by decide) (by decide) rfl ?_
      rintro T14 v14 L14 X14 ⟨rfl, N14q, Kc14⟩
      have N14 := Fr.app N11 N14q
      have Ol14 := Ol10.keep Kc14 all0
      show Go p e below _ T14 (mkF m 91 #[.val (.int p0), .val (.int p1), .val (.int p2), .val (.int p3), .val (.int (1 : Int32)), .val (.int (0 : Int32)), .val (.int (1 : Int32)), .val (.int c0), .val (.int c1), .val (.int c2), .val (.ref bx1), .val (.ref (ad5 Z a0))] [(.ref (ad5 Z a0))])
      refine g_aload X14 K (q := 93) at_91 rfl rfl rfl ?_
      refine g_ac X14 K (q := 96) (same := true) at_93 rfl rfl (decide_eq_true rfl) (by decide) (by decide) ?_
      refine g_iconst X14 K (q := 97) (v := (1 : Int32)) at_96 (by decide) rfl ?_
      refine g_goto X14 K (q := 101) at_97 (by decide) (by decide) ?_
      refine goW ?_
      refine g_nret X14 K (by simp) (z' := (1 : Int32)) (by decide) at_101 (by decide) (by decide) ?_
      exact ⟨rfl, N14⟩
    · have N11 := Fr.app N10 N11q
      show Go p e below _ T11 (mkF m 84 #[.val (.int p0), .val (.int p1), .val (.int p2), .val (.int p3), .val (.int (1 : Int32)), .val (.int (0 : Int32)), .val (.int (1 : Int32)), .val (.int c0), .val (.int c1), .val (.int c2), .val (.ref bx1), .unset] [.null])
      refine g_astore X11 K (q := 86) (L' := #[.val (.int p0), .val (.int p1), .val (.int p2), .val (.int p3), .val (.int (1 : Int32)), .val (.int (0 : Int32)), .val (.int (1 : Int32)), .val (.int c0), .val (.int c1), .val (.int c2), .val (.ref bx1), .val .null]) at_84 rfl rfl rfl ?_
      refine g_aload X11 K (q := 88) at_86 rfl rfl rfl ?_
      refine g_static X11 K (q := 91) (W := 0) (w32 H) (w33 H) (w34 H) (w35 H) (by decide) (rm7_47 l H bx1 bx2 c0.toInt8.toInt32 kB1 T10.heap Ol10 g3 g2 g4 (fun z => hc7 ((b8 bd0 (n := 61) rfl (by decide)).mp z)) gebx1 g1 (fun z => hc8 ((b8 bd0 (n := 60) rfl (by decide)).mp z)) (fun z => hc9 ((b8 bd0 (n := 62) rfl (by decide)).mp z))) e11 rfl (argsL := [(.ref bx1)]) (rest := []) (lenOf pd_8 rfl) rfl rfl (Nat.le_of_eq rfl) at_88 (by decide) (by decide) (by decide) (by decide) rfl ?_
      rintro T15 v15 L15 X15 ⟨rfl, N15q, Kc15⟩
      have N15 := Fr.app N11 N15q
      have Ol15 := Ol10.keep Kc15 all0
      show Go p e below _ T15 (mkF m 91 #[.val (.int p0), .val (.int p1), .val (.int p2), .val (.int p3), .val (.int (1 : Int32)), .val (.int (0 : Int32)), .val (.int (1 : Int32)), .val (.int c0), .val (.int c1), .val (.int c2), .val (.ref bx1), .val .null] [.null])
      refine g_aload X15 K (q := 93) at_91 rfl rfl rfl ?_
      refine g_ac X15 K (q := 96) (same := true) at_93 rfl rfl (decide_eq_true rfl) (by decide) (by decide) ?_
      refine g_iconst X15 K (q := 97) (v := (1 : Int32)) at_96 (by decide) rfl ?_
      refine g_goto X15 K (q := 101) at_97 (by decide) (by decide) ?_
      refine goW ?_
      refine g_nret X15 K (by simp) (z' := (1 : Int32)) (by decide) at_101 (by decide) (by decide) ?_
      exact ⟨rfl, N15⟩
  · refine g_iand X0 K (q := 4) (z := (2 : Int32)) at_3 hs1 rfl ?_
    refine g_istore X0 K (q := 6) (L' := #[.val (.int p0), .val (.int p1), .val (.int p2), .val (.int p3), .val (.int (2 : Int32)), .unset, .unset, .unset, .unset, .unset, .unset, .unset]) at_4 rfl rfl ?_
    refine g_iload X0 K (q := 8) at_6 rfl rfl ?_
    refine g_bipush X0 K (q := 10) (v := (7 : Int32)) at_8 (by decide) rfl ?_
    refine g_icY X0 K (q := 17) at_10 (by decide) (by decide) (by decide) ?_
    refine g_iconst X0 K (q := 18) (v := (0 : Int32)) at_17 (by decide) rfl ?_
    refine g_istore X0 K (q := 20) (L' := #[.val (.int p0), .val (.int p1), .val (.int p2), .val (.int p3), .val (.int (2 : Int32)), .val (.int (0 : Int32)), .unset, .unset, .unset, .unset, .unset, .unset]) at_18 rfl rfl ?_
    refine g_iload X0 K (q := 22) at_20 rfl rfl ?_
    refine g_iconst X0 K (q := 23) (v := (4 : Int32)) at_22 (by decide) rfl ?_
    refine g_irem X0 K (q := 24) at_23 (by decide) (z := (2 : Int32)) (by decide) rfl ?_
    refine g_istore X0 K (q := 26) (L' := #[.val (.int p0), .val (.int p1), .val (.int p2), .val (.int p3), .val (.int (2 : Int32)), .val (.int (0 : Int32)), .val (.int (2 : Int32)), .unset, .unset, .unset, .unset, .unset]) at_24 rfl rfl ?_
    refine g_iloadN X0 K (q := 27) at_26 rfl rfl ?_
    refine g_static X0 K (q := 30) (W := 0) (w0 H) (w1 H) (w2 H) (w3 H) (by decide) (rm1_4 l H p1 h0 Ol0) e0 rfl (argsL := [(.int p1)]) (rest := []) (lenOf pd_2 rfl) rfl rfl (Nat.le_of_eq rfl) at_27 (by decide) (by decide) (by decide) (by decide) rfl ?_
    rintro T16 v16 L16 X16 ⟨rfl, N16q, e16⟩
    have N16 := Fr.app (Fr.nil _) N16q
    show Go p e below _ T16 (mkF m 30 #[.val (.int p0), .val (.int p1), .val (.int p2), .val (.int p3), .val (.int (2 : Int32)), .val (.int (0 : Int32)), .val (.int (2 : Int32)), .unset, .unset, .unset, .unset, .unset] [(.int (chF p1))])
    have bd0 := chF_bd p1
    have nr0 := chF_nar p1
    obtain ⟨c0, hc0⟩ : ∃ z, chF p1 = z := ⟨_, rfl⟩
    rw [hc0] at bd0 nr0 ⊢
    have gt0 : ¬ ((255 : Int32) < c0) := own_ngtI (m := 255) rfl (by omega)
    refine g_istore X16 K (q := 32) (L' := #[.val (.int p0), .val (.int p1), .val (.int p2), .val (.int p3), .val (.int (2 : Int32)), .val (.int (0 : Int32)), .val (.int (2 : Int32)), .val (.int c0), .unset, .unset, .unset, .unset]) at_30 rfl rfl ?_
    refine g_iloadN X16 K (q := 33) at_32 rfl rfl ?_
    refine g_static X16 K (q := 36) (W := 0) (w0 H) (w1 H) (w2 H) (w3 H) (by decide) (rm1_4 l H p2 h0 Ol0) e16 rfl (argsL := [(.int p2)]) (rest := []) (lenOf pd_2 rfl) rfl rfl (Nat.le_of_eq rfl) at_33 (by decide) (by decide) (by decide) (by decide) rfl ?_
    rintro T17 v17 L17 X17 ⟨rfl, N17q, e17⟩
    have N17 := Fr.app N16 N17q
    show Go p e below _ T17 (mkF m 36 #[.val (.int p0), .val (.int p1), .val (.int p2), .val (.int p3), .val (.int (2 : Int32)), .val (.int (0 : Int32)), .val (.int (2 : Int32)), .val (.int c0), .unset, .unset, .unset, .unset] [(.int (chF p2))])
    have bd1 := chF_bd p2
    have nr1 := chF_nar p2
    obtain ⟨c1, hc1⟩ : ∃ z, chF p2 = z := ⟨_, rfl⟩
    rw [hc1] at bd1 nr1 ⊢
    have gt1 : ¬ ((255 : Int32) < c1) := own_ngtI (m := 255) rfl (by omega)
    refine g_istore X17 K (q := 38) (L' := #[.val (.int p0), .val (.int p1), .val (.int p2), .val (.int p3), .val (.int (2 : Int32)), .val (.int (0 : Int32)), .val (.int (2 : Int32)), .val (.int c0), .val (.int c1), .unset, .unset, .unset]) at_36 rfl rfl ?_
    refine g_iloadN X17 K (q := 39) at_38 rfl rfl ?_
    refine g_static X17 K (q := 42) (W := 0) (w0 H) (w1 H) (w2 H) (w3 H) (by decide) (rm1_4 l H p3 h0 Ol0) e17 rfl (argsL := [(.int p3)]) (rest := []) (lenOf pd_2 rfl) rfl rfl (Nat.le_of_eq rfl) at_39 (by decide) (by decide) (by decide) (by decide) rfl ?_
    rintro T18 v18 L18 X18 ⟨rfl, N18q, e18⟩
    have N18 := Fr.app N17 N18q
    show Go p e below _ T18 (mkF m 42 #[.val (.int p0), .val (.int p1), .val (.int p2), .val (.int p3), .val (.int (2 : Int32)), .val (.int (0 : Int32)), .val (.int (2 : Int32)), .val (.int c0), .val (.int c1), .unset, .unset, .unset] [(.int (chF p3))])
    have bd2 := chF_bd p3
    have nr2 := chF_nar p3
    obtain ⟨c2, hc2⟩ : ∃ z, chF p3 = z := ⟨_, rfl⟩
    rw [hc2] at bd2 nr2 ⊢
    have gt2 : ¬ ((255 : Int32) < c2) := own_ngtI (m := 255) rfl (by omega)
    refine g_istore X18 K (q := 44) (L' := #[.val (.int p0), .val (.int p1), .val (.int p2), .val (.int p3), .val (.int (2 : Int32)), .val (.int (0 : Int32)), .val (.int (2 : Int32)), .val (.int c0), .val (.int c1), .val (.int c2), .unset, .unset]) at_42 rfl rfl ?_
    refine g_iload X18 K (q := 46) at_44 rfl rfl ?_
    refine g_ifY X18 K (q := 53) at_46 (by decide) (by decide) (by decide) ?_
    refine g_iload X18 K (q := 55) at_53 rfl rfl ?_
    refine g_iload X18 K (q := 57) at_55 rfl rfl ?_
    refine g_iload X18 K (q := 59) at_57 rfl rfl ?_
    refine g_iload X18 K (q := 61) at_59 rfl rfl ?_
    refine g_static X18 K (q := 64) (W := 0) (w4 H) (w5 H) (w2 H) (w6 H) (by decide) (rm2_53 l H c0 c1 c2 h0 Ol0 nr0 nr1 gt0 gt1) e18 rfl (argsL := [(.int (2 : Int32)), (.int c0), (.int c1), (.int c2)]) (rest := []) (lenOf pd_3 rfl) rfl rfl (Nat.le_of_eq rfl) at_61 (by decide) (by decide) (by decide) (by decide) rfl ?_
    rintro T19 v19 L19 X19 ⟨bx3, bx4, kB2, rfl, N19q, Kc19, lz19_0, lz19_1, g5, g6, g7, g8⟩
    have N19 := Fr.app N18 N19q
    have gebx3 := Nat.le_trans Ol0.2.1 lz19_0
    have so4 := Sd.one bx3
    have gebx4 := Nat.le_trans gebx3 (Nat.le_of_lt lz19_1)
    have so5 := so4.cons lz19_1
    have Ol19 := Ol0.keep Kc19 all0
    show Go p e below _ T19 (mkF m 64 #[.val (.int p0), .val (.int p1), .val (.int p2), .val (.int p3), .val (.int (2 : Int32)), .val (.int (0 : Int32)), .val (.int (2 : Int32)), .val (.int c0), .val (.int c1), .val (.int c2), .unset, .unset] [(.ref bx3)])
    refine g_astore X19 K (q := 66) (L' := #[.val (.int p0), .val (.int p1), .val (.int p2), .val (.int p3), .val (.int (2 : Int32)), .val (.int (0 : Int32)), .val (.int (2 : Int32)), .val (.int c0), .val (.int c1), .val (.int c2), .val (.ref bx3), .unset]) at_64 rfl rfl rfl ?_
    refine g_iload X19 K (q := 68) at_66 rfl rfl ?_
    refine g_ifY X19 K (q := 75) at_68 (by decide) (by decide) (by decide) ?_
    refine g_iload X19 K (q := 77) at_75 rfl rfl ?_
    refine g_iload X19 K (q := 79) at_77 rfl rfl ?_
    refine g_iload X19 K (q := 81) at_79 rfl rfl ?_
    refine g_static X19 K (q := 84) (W := 0) (w29 H) (w30 H) (w2 H) (w31 H) (by decide) (rm6_54 l H c0 c1 T19.heap Ol19) rfl rfl (argsL := [(.int (2 : Int32)), (.int c0), (.int c1)]) (rest := []) (lenOf pd_4 rfl) rfl rfl (Nat.le_of_eq rfl) at_81 (by decide) (by decide) (by decide) (by decide) rfl ?_
    rintro T20 v20 L20 X20 (⟨hc10, hc11, rfl, N20q, e20⟩ | ⟨hc12, hc13, hc14, rfl, N20q, e20⟩ | ⟨hc15, hc16, hc17, hc18, rfl, N20q, e20⟩ | ⟨hc19, hc20, hc21, hc22, rfl, N20q, e20⟩ | ⟨hc23, rfl, N20q, e20⟩)
    · have N20 := Fr.app N19 N20q
      show Go p e below _ T20 (mkF m 84 #[.val (.int p0), .val (.int p1), .val (.int p2), .val (.int p3), .val (.int (2 : Int32)), .val (.int (0 : Int32)), .val (.int (2 : Int32)), .val (.int c0), .val (.int c1), .val (.int c2), .val (.ref bx3), .unset] [(.ref (ad2 Z a0))])
      refine g_astore X20 K (q := 86) (L' := #[.val (.int p0), .val (.int p1), .val (.int p2), .val (.int p3), .val (.int (2 : Int32)), .val (.int (0 : Int32)), .val (.int (2 : Int32)), .val (.int c0), .val (.int c1), .val (.int c2), .val (.ref bx3), .val (.ref (ad2 Z a0))]) at_84 rfl rfl rfl ?_
      refine g_aload X20 K (q := 88) at_86 rfl rfl rfl ?_
      refine g_static X20 K (q := 91) (W := 0) (w32 H) (w33 H) (w34 H) (w35 H) (by decide) (rm7_59 l H bx3 bx4 c0.toInt8.toInt32 c1.toInt8.toInt32 kB2 T19.heap Ol19 g7 g6 g8 gebx3 g5 ((b8 bd0 (n := 33) rfl (by decide)).mpr hc11) ((b8 bd1 (n := 61) rfl (by decide)).mpr hc10)) e20 rfl (argsL := [(.ref bx3)]) (rest := []) (lenOf pd_8 rfl) rfl rfl (Nat.le_of_eq rfl) at_88 (by decide) (by decide) (by decide) (by decide) rfl ?_
      rintro T21 v21 L21 X21 ⟨rfl, N21q, Kc21⟩
      have N21 := Fr.app N20 N21q
      have Ol21 := Ol19.keep Kc21 all0
      show Go p e below _ T21 (mkF m 91 #[.val (.int p0), .val (.int p1), .val (.int p2), .val (.int p3), .val (.int (2 : Int32)), .val (.int (0 : Int32)), .val (.int (2 : Int32)), .val (.int c0), .val (.int c1), .val (.int c2), .val (.ref bx3), .val (.ref (ad2 Z a0))] [(.ref (ad2 Z a0))])
      refine g_aload X21 K (q := 93) at_91 rfl rfl rfl ?_
      refine g_ac X21 K (q := 96) (same := true) at_93 rfl rfl (decide_eq_true rfl) (by decide) (by decide) ?_
      refine g_iconst X21 K (q := 97) (v := (1 : Int32)) at_96 (by decide) rfl ?_
      refine g_goto X21 K (q := 101) at_97 (by decide) (by decide) ?_
      refine goW ?_
      refine g_nret X21 K (by simp) (z' := (1 : Int32)) (by decide) at_101 (by decide) (by decide) ?_
      exact ⟨rfl, N21⟩
    · have N20 := Fr.app N19 N20q
      show Go p e below _ T20 (mkF m 84 #[.val (.int p0), .val (.int p1), .val (.int p2), .val (.int p3), .val (.int (2 : Int32)), .val (.int (0 : Int32)), .val (.int (2 : Int32)), .val (.int c0), .val (.int c1), .val (.int c2), .val (.ref bx3), .unset] [(.ref (ad4 Z a0))])
      refine g_astore X20 K (q := 86) (L' := #[.val (.int p0), .val (.int p1), .val (.int p2), .val (.int p3), .val (.int (2 : Int32)), .val (.int (0 : Int32)), .val (.int (2 : Int32)), .val (.int c0), .val (.int c1), .val (.int c2), .val (.ref bx3), .val (.ref (ad4 Z a0))]) at_84 rfl rfl rfl ?_
      refine g_aload X20 K (q := 88) at_86 rfl rfl rfl ?_
      refine g_static X20 K (q := 91) (W := 0) (w32 H) (w33 H) (w34 H) (w35 H) (by decide) (rm7_66 l H bx3 bx4 c0.toInt8.toInt32 c1.toInt8.toInt32 kB2 T19.heap Ol19 g7 g6 g8 gebx3 g5 (fun z => hc13 ((b8 bd0 (n := 33) rfl (by decide)).mp z)) ((b8 bd0 (n := 60) rfl (by decide)).mpr hc14) ((b8 bd1 (n := 61) rfl (by decide)).mpr hc12)) e20 rfl (argsL := [(.ref bx3)]) (rest := []) (lenOf pd_8 rfl) rfl rfl (Nat.le_of_eq rfl) at_88 (by decide) (by decide) (by decide) (by decide) rfl ?_
      rintro T22 v22 L22 X22 ⟨rfl, N22q, Kc22⟩
      have N22 := Fr.app N20 N22q
      have Ol22 := Ol19.keep Kc22 all0
      show Go p e below _ T22 (mkF m 91 #[.val (.int p0), .val (.int p1), .val (.int p2), .val (.int p3), .val (.int (2 : Int32)), .val (.int (0 : Int32)), .val (.int (2 : Int32)), .val (.int c0), .val (.int c1), .val (.int c2), .val (.ref bx3), .val (.ref (ad4 Z a0))] [(.ref (ad4 Z a0))])
      refine g_aload X22 K (q := 93) at_91 rfl rfl rfl ?_
      refine g_ac X22 K (q := 96) (same := true) at_93 rfl rfl (decide_eq_true rfl) (by decide) (by decide) ?_
      refine g_iconst X22 K (q := 97) (v := (1 : Int32)) at_96 (by decide) rfl ?_
      refine g_goto X22 K (q := 101) at_97 (by decide) (by decide) ?_
      refine goW ?_
      refine g_nret X22 K (by simp) (z' := (1 : Int32)) (by decide) at_101 (by decide) (by decide) ?_
      exact ⟨rfl, N22⟩
    · have N20 := Fr.app N19 N20q
      show Go p e below _ T20 (mkF m 84 #[.val (.int p0), .val (.int p1), .val (.int p2), .val (.int p3), .val (.int (2 : Int32)), .val (.int (0 : Int32)), .val (.int (2 : Int32)), .val (.int c0), .val (.int c1), .val (.int c2), .val (.ref bx3), .unset] [(.ref (ad6 Z a0))])
      refine g_astore X20 K (q := 86) (L' := #[.val (.int p0), .val (.int p1), .val (.int p2), .val (.int p3), .val (.int (2 : Int32)), .val (.int (0 : Int32)), .val (.int (2 : Int32)), .val (.int c0), .val (.int c1), .val (.int c2), .val (.ref bx3), .val (.ref (ad6 Z a0))]) at_84 rfl rfl rfl ?_
      refine g_aload X20 K (q := 88) at_86 rfl rfl rfl ?_
      refine g_static X20 K (q := 91) (W := 0) (w32 H) (w33 H) (w34 H) (w35 H) (by decide) (rm7_73 l H bx3 bx4 c0.toInt8.toInt32 c1.toInt8.toInt32 kB2 T19.heap Ol19 g7 g6 g8 gebx3 g5 (fun z => hc16 ((b8 bd0 (n := 33) rfl (by decide)).mp z)) (fun z => hc17 ((b8 bd0 (n := 60) rfl (by decide)).mp z)) ((b8 bd0 (n := 62) rfl (by decide)).mpr hc18) ((b8 bd1 (n := 61) rfl (by decide)).mpr hc15)) e20 rfl (argsL := [(.ref bx3)]) (rest := []) (lenOf pd_8 rfl) rfl rfl (Nat.le_of_eq rfl) at_88 (by decide) (by decide) (by decide) (by decide) rfl ?_
      rintro T23 v23 L23 X23 ⟨rfl, N23q, Kc23⟩
      have N23 := Fr.app N20 N23q
      have Ol23 := Ol19.keep Kc23 all0
      show Go p e below _ T23 (mkF m 91 #[.val (.int p0), .val (.int p1), .val (.int p2), .val (.int p3), .val (.int (2 : Int32)), .val (.int (0 : Int32)), .val (.int (2 : Int32)), .val (.int c0), .val (.int c1), .val (.int c2), .val (.ref bx3), .val (.ref (ad6 Z a0))] [(.ref (ad6 Z a0))])
      refine g_aload X23 K (q := 93) at_91 rfl rfl rfl ?_
      refine g_ac X23 K (q := 96) (same := true) at_93 rfl rfl (decide_eq_true rfl) (by decide) (by decide) ?_
      refine g_iconst X23 K (q := 97) (v := (1 : Int32)) at_96 (by decide) rfl ?_
      refine g_goto X23 K (q := 101) at_97 (by decide) (by decide) ?_
      refine goW ?_
      refine g_nret X23 K (by simp) (z' := (1 : Int32)) (by decide) at_101 (by decide) (by decide) ?_
      exact ⟨rfl, N23⟩
    · have N20 := Fr.app N19 N20q
      show Go p e below _ T20 (mkF m 84 #[.val (.int p0), .val (.int p1), .val (.int p2), .val (.int p3), .val (.int (2 : Int32)), .val (.int (0 : Int32)), .val (.int (2 : Int32)), .val (.int c0), .val (.int c1), .val (.int c2), .val (.ref bx3), .unset] [.null])
      refine g_astore X20 K (q := 86) (L' := #[.val (.int p0), .val (.int p1), .val (.int p2), .val (.int p3), .val (.int (2 : Int32)), .val (.int (0 : Int32)), .val (.int (2 : Int32)), .val (.int c0), .val (.int c1), .val (.int c2), .val (.ref bx3), .val .null]) at_84 rfl rfl rfl ?_
      refine g_aload X20 K (q := 88) at_86 rfl rfl rfl ?_
      refine g_static X20 K (q := 91) (W := 0) (w32 H) (w33 H) (w34 H) (w35 H) (by decide) (rm7_76 l H bx3 bx4 c0.toInt8.toInt32 c1.toInt8.toInt32 kB2 T19.heap Ol19 g7 g6 g8 gebx3 g5 (fun z => hc20 ((b8 bd0 (n := 33) rfl (by decide)).mp z)) (fun z => hc21 ((b8 bd0 (n := 60) rfl (by decide)).mp z)) (fun z => hc22 ((b8 bd0 (n := 62) rfl (by decide)).mp z))) e20 rfl (argsL := [(.ref bx3)]) (rest := []) (lenOf pd_8 rfl) rfl rfl (Nat.le_of_eq rfl) at_88 (by decide) (by decide) (by decide) (by decide) rfl ?_
      rintro T24 v24 L24 X24 ⟨rfl, N24q, Kc24⟩
      have N24 := Fr.app N20 N24q
      have Ol24 := Ol19.keep Kc24 all0
      show Go p e below _ T24 (mkF m 91 #[.val (.int p0), .val (.int p1), .val (.int p2), .val (.int p3), .val (.int (2 : Int32)), .val (.int (0 : Int32)), .val (.int (2 : Int32)), .val (.int c0), .val (.int c1), .val (.int c2), .val (.ref bx3), .val .null] [.null])
      refine g_aload X24 K (q := 93) at_91 rfl rfl rfl ?_
      refine g_ac X24 K (q := 96) (same := true) at_93 rfl rfl (decide_eq_true rfl) (by decide) (by decide) ?_
      refine g_iconst X24 K (q := 97) (v := (1 : Int32)) at_96 (by decide) rfl ?_
      refine g_goto X24 K (q := 101) at_97 (by decide) (by decide) ?_
      refine goW ?_
      refine g_nret X24 K (by simp) (z' := (1 : Int32)) (by decide) at_101 (by decide) (by decide) ?_
      exact ⟨rfl, N24⟩
    · have N20 := Fr.app N19 N20q
      show Go p e below _ T20 (mkF m 84 #[.val (.int p0), .val (.int p1), .val (.int p2), .val (.int p3), .val (.int (2 : Int32)), .val (.int (0 : Int32)), .val (.int (2 : Int32)), .val (.int c0), .val (.int c1), .val (.int c2), .val (.ref bx3), .unset] [.null])
      refine g_astore X20 K (q := 86) (L' := #[.val (.int p0), .val (.int p1), .val (.int p2), .val (.int p3), .val (.int (2 : Int32)), .val (.int (0 : Int32)), .val (.int (2 : Int32)), .val (.int c0), .val (.int c1), .val (.int c2), .val (.ref bx3), .val .null]) at_84 rfl rfl rfl ?_
      refine g_aload X20 K (q := 88) at_86 rfl rfl rfl ?_
      refine g_static X20 K (q := 91) (W := 0) (w32 H) (w33 H) (w34 H) (w35 H) (by decide) (rm7_83 l H bx3 bx4 c0.toInt8.toInt32 c1.toInt8.toInt32 kB2 T19.heap Ol19 g7 g6 g8 gebx3 g5 (fun z => hc23 ((b8 bd1 (n := 61) rfl (by decide)).mp z))) e20 rfl (argsL := [(.ref bx3)]) (rest := []) (lenOf pd_8 rfl) rfl rfl (Nat.le_of_eq rfl) at_88 (by decide) (by decide) (by decide) (by decide) rfl ?_
      rintro T25 v25 L25 X25 (⟨hc24, hc25, hc26, rfl, N25q, Kc25⟩ | ⟨hc27, hc28, hc29, rfl, N25q, Kc25⟩ | ⟨hc30, hc31, hc32, rfl, N25q, Kc25⟩ | ⟨hc33, hc34, hc35, rfl, N25q, Kc25⟩ | ⟨hc36, hc37, hc38, rfl, N25q, Kc25⟩ | ⟨hc39, hc40, hc41, rfl, N25q, Kc25⟩ | ⟨hc42, hc43, hc44, rfl, N25q, Kc25⟩ | ⟨hc45, hc46, hc47, rfl, N25q, Kc25⟩)
      · have N25 := Fr.app N20 N25q
        have Ol25 := Ol19.keep Kc25 all0
        show Go p e below _ T25 (mkF m 91 #[.val (.int p0), .val (.int p1), .val (.int p2), .val (.int p3), .val (.int (2 : Int32)), .val (.int (0 : Int32)), .val (.int (2 : Int32)), .val (.int c0), .val (.int c1), .val (.int c2), .val (.ref bx3), .val .null] [.null])
        refine g_aload X25 K (q := 93) at_91 rfl rfl rfl ?_
        refine g_ac X25 K (q := 96) (same := true) at_93 rfl rfl (decide_eq_true rfl) (by decide) (by decide) ?_
        refine g_iconst X25 K (q := 97) (v := (1 : Int32)) at_96 (by decide) rfl ?_
        refine g_goto X25 K (q := 101) at_97 (by decide) (by decide) ?_
        refine goW ?_
        refine g_nret X25 K (by simp) (z' := (1 : Int32)) (by decide) at_101 (by decide) (by decide) ?_
        exact ⟨rfl, N25⟩
      · have N25 := Fr.app N20 N25q
        have Ol25 := Ol19.keep Kc25 all0
        show Go p e below _ T25 (mkF m 91 #[.val (.int p0), .val (.int p1), .val (.int p2), .val (.int p3), .val (.int (2 : Int32)), .val (.int (0 : Int32)), .val (.int (2 : Int32)), .val (.int c0), .val (.int c1), .val (.int c2), .val (.ref bx3), .val .null] [.null])
        refine g_aload X25 K (q := 93) at_91 rfl rfl rfl ?_
        refine g_ac X25 K (q := 96) (same := true) at_93 rfl rfl (decide_eq_true rfl) (by decide) (by decide) ?_
        refine g_iconst X25 K (q := 97) (v := (1 : Int32)) at_96 (by decide) rfl ?_
        refine g_goto X25 K (q := 101) at_97 (by decide) (by decide) ?_
        refine goW ?_
        refine g_nret X25 K (by simp) (z' := (1 : Int32)) (by decide) at_101 (by decide) (by decide) ?_
        exact ⟨rfl, N25⟩
      · have N25 := Fr.app N20 N25q
        have Ol25 := Ol19.keep Kc25 all0
        show Go p e below _ T25 (mkF m 91 #[.val (.int p0), .val (.int p1), .val (.int p2), .val (.int p3), .val (.int (2 : Int32)), .val (.int (0 : Int32)), .val (.int (2 : Int32)), .val (.int c0), .val (.int c1), .val (.int c2), .val (.ref bx3), .val .null] [.null])
        refine g_aload X25 K (q := 93) at_91 rfl rfl rfl ?_
        refine g_ac X25 K (q := 96) (same := true) at_93 rfl rfl (decide_eq_true rfl) (by decide) (by decide) ?_
        refine g_iconst X25 K (q := 97) (v := (1 : Int32)) at_96 (by decide) rfl ?_
        refine g_goto X25 K (q := 101) at_97 (by decide) (by decide) ?_
        refine goW ?_
        refine g_nret X25 K (by simp) (z' := (1 : Int32)) (by decide) at_101 (by decide) (by decide) ?_
        exact ⟨rfl, N25⟩
      · have N25 := Fr.app N20 N25q
        have Ol25 := Ol19.keep Kc25 all0
        show Go p e below _ T25 (mkF m 91 #[.val (.int p0), .val (.int p1), .val (.int p2), .val (.int p3), .val (.int (2 : Int32)), .val (.int (0 : Int32)), .val (.int (2 : Int32)), .val (.int c0), .val (.int c1), .val (.int c2), .val (.ref bx3), .val .null] [.null])
        refine g_aload X25 K (q := 93) at_91 rfl rfl rfl ?_
        refine g_ac X25 K (q := 96) (same := true) at_93 rfl rfl (decide_eq_true rfl) (by decide) (by decide) ?_
        refine g_iconst X25 K (q := 97) (v := (1 : Int32)) at_96 (by decide) rfl ?_
        refine g_goto X25 K (q := 101) at_97 (by decide) (by decide) ?_
        refine goW ?_
        refine g_nret X25 K (by simp) (z' := (1 : Int32)) (by decide) at_101 (by decide) (by decide) ?_
        exact ⟨rfl, N25⟩
      · have N25 := Fr.app N20 N25q
        have Ol25 := Ol19.keep Kc25 all0
        show Go p e below _ T25 (mkF m 91 #[.val (.int p0), .val (.int p1), .val (.int p2), .val (.int p3), .val (.int (2 : Int32)), .val (.int (0 : Int32)), .val (.int (2 : Int32)), .val (.int c0), .val (.int c1), .val (.int c2), .val (.ref bx3), .val .null] [.null])
        refine g_aload X25 K (q := 93) at_91 rfl rfl rfl ?_
        refine g_ac X25 K (q := 96) (same := true) at_93 rfl rfl (decide_eq_true rfl) (by decide) (by decide) ?_
        refine g_iconst X25 K (q := 97) (v := (1 : Int32)) at_96 (by decide) rfl ?_
        refine g_goto X25 K (q := 101) at_97 (by decide) (by decide) ?_
        refine goW ?_
        refine g_nret X25 K (by simp) (z' := (1 : Int32)) (by decide) at_101 (by decide) (by decide) ?_
        exact ⟨rfl, N25⟩
      · have N25 := Fr.app N20 N25q
        have Ol25 := Ol19.keep Kc25 all0
        show Go p e below _ T25 (mkF m 91 #[.val (.int p0), .val (.int p1), .val (.int p2), .val (.int p3), .val (.int (2 : Int32)), .val (.int (0 : Int32)), .val (.int (2 : Int32)), .val (.int c0), .val (.int c1), .val (.int c2), .val (.ref bx3), .val .null] [.null])
        refine g_aload X25 K (q := 93) at_91 rfl rfl rfl ?_
        refine g_ac X25 K (q := 96) (same := true) at_93 rfl rfl (decide_eq_true rfl) (by decide) (by decide) ?_
        refine g_iconst X25 K (q := 97) (v := (1 : Int32)) at_96 (by decide) rfl ?_
        refine g_goto X25 K (q := 101) at_97 (by decide) (by decide) ?_
        refine goW ?_
        refine g_nret X25 K (by simp) (z' := (1 : Int32)) (by decide) at_101 (by decide) (by decide) ?_
        exact ⟨rfl, N25⟩
      · have N25 := Fr.app N20 N25q
        have Ol25 := Ol19.keep Kc25 all0
        show Go p e below _ T25 (mkF m 91 #[.val (.int p0), .val (.int p1), .val (.int p2), .val (.int p3), .val (.int (2 : Int32)), .val (.int (0 : Int32)), .val (.int (2 : Int32)), .val (.int c0), .val (.int c1), .val (.int c2), .val (.ref bx3), .val .null] [.null])
        refine g_aload X25 K (q := 93) at_91 rfl rfl rfl ?_
        refine g_ac X25 K (q := 96) (same := true) at_93 rfl rfl (decide_eq_true rfl) (by decide) (by decide) ?_
        refine g_iconst X25 K (q := 97) (v := (1 : Int32)) at_96 (by decide) rfl ?_
        refine g_goto X25 K (q := 101) at_97 (by decide) (by decide) ?_
        refine goW ?_
        refine g_nret X25 K (by simp) (z' := (1 : Int32)) (by decide) at_101 (by decide) (by decide) ?_
        exact ⟨rfl, N25⟩
      · have N25 := Fr.app N20 N25q
        have Ol25 := Ol19.keep Kc25 all0
        show Go p e below _ T25 (mkF m 91 #[.val (.int p0), .val (.int p1), .val (.int p2), .val (.int p3), .val (.int (2 : Int32)), .val (.int (0 : Int32)), .val (.int (2 : Int32)), .val (.int c0), .val (.int c1), .val (.int c2), .val (.ref bx3), .val .null] [.null])
        refine g_aload X25 K (q := 93) at_91 rfl rfl rfl ?_
        refine g_ac X25 K (q := 96) (same := true) at_93 rfl rfl (decide_eq_true rfl) (by decide) (by decide) ?_
        refine g_iconst X25 K (q := 97) (v := (1 : Int32)) at_96 (by decide) rfl ?_
        refine g_goto X25 K (q := 101) at_97 (by decide) (by decide) ?_
        refine goW ?_
        refine g_nret X25 K (by simp) (z' := (1 : Int32)) (by decide) at_101 (by decide) (by decide) ?_
        exact ⟨rfl, N25⟩
  · refine g_iand X0 K (q := 4) (z := (3 : Int32)) at_3 hs1 rfl ?_
    refine g_istore X0 K (q := 6) (L' := #[.val (.int p0), .val (.int p1), .val (.int p2), .val (.int p3), .val (.int (3 : Int32)), .unset, .unset, .unset, .unset, .unset, .unset, .unset]) at_4 rfl rfl ?_
    refine g_iload X0 K (q := 8) at_6 rfl rfl ?_
    refine g_bipush X0 K (q := 10) (v := (7 : Int32)) at_8 (by decide) rfl ?_
    refine g_icY X0 K (q := 17) at_10 (by decide) (by decide) (by decide) ?_
    refine g_iconst X0 K (q := 18) (v := (0 : Int32)) at_17 (by decide) rfl ?_
    refine g_istore X0 K (q := 20) (L' := #[.val (.int p0), .val (.int p1), .val (.int p2), .val (.int p3), .val (.int (3 : Int32)), .val (.int (0 : Int32)), .unset, .unset, .unset, .unset, .unset, .unset]) at_18 rfl rfl ?_
    refine g_iload X0 K (q := 22) at_20 rfl rfl ?_
    refine g_iconst X0 K (q := 23) (v := (4 : Int32)) at_22 (by decide) rfl ?_
    refine g_irem X0 K (q := 24) at_23 (by decide) (z := (3 : Int32)) (by decide) rfl ?_
    refine g_istore X0 K (q := 26) (L' := #[.val (.int p0), .val (.int p1), .val (.int p2), .val (.int p3), .val (.int (3 : Int32)), .val (.int (0 : Int32)), .val (.int (3 : Int32)), .unset, .unset, .unset, .unset, .unset]) at_24 rfl rfl ?_
    refine g_iloadN X0 K (q := 27) at_26 rfl rfl ?_
    refine g_static X0 K (q := 30) (W := 0) (w0 H) (w1 H) (w2 H) (w3 H) (by decide) (rm1_4 l H p1 h0 Ol0) e0 rfl (argsL := [(.int p1)]) (rest := []) (lenOf pd_2 rfl) rfl rfl (Nat.le_of_eq rfl) at_27 (by decide) (by decide) (by decide) (by decide) rfl ?_
    rintro T26 v26 L26 X26 ⟨rfl, N26q, e26⟩
    have N26 := Fr.app (Fr.nil _) N26q
    show Go p e below _ T26 (mkF m 30 #[.val (.int p0), .val (.int p1), .val (.int p2), .val (.int p3), .val (.int (3 : Int32)), .val (.int (0 : Int32)), .val (.int (3 : Int32)), .unset, .unset, .unset, .unset, .unset] [(.int (chF p1))])
    have bd0 := chF_bd p1
    have nr0 := chF_nar p1
    obtain ⟨c0, hc0⟩ : ∃ z, chF p1 = z := ⟨_, rfl⟩
    rw [hc0] at bd0 nr0 ⊢
    have gt0 : ¬ ((255 : Int32) < c0) := own_ngtI (m := 255) rfl (by omega)
    refine g_istore X26 K (q := 32) (L' := #[.val (.int p0), .val (.int p1), .val (.int p2), .val (.int p3), .val (.int (3 : Int32)), .val (.int (0 : Int32)), .val (.int (3 : Int32)), .val (.int c0), .unset, .unset, .unset, .unset]) at_30 rfl rfl ?_
    refine g_iloadN X26 K (q := 33) at_32 rfl rfl ?_
    refine g_static X26 K (q := 36) (W := 0) (w0 H) (w1 H) (w2 H) (w3 H) (by decide) (rm1_4 l H p2 h0 Ol0) e26 rfl (argsL := [(.int p2)]) (rest := []) (lenOf pd_2 rfl) rfl rfl (Nat.le_of_eq rfl) at_33 (by decide) (by decide) (by decide) (by decide) rfl ?_
    rintro T27 v27 L27 X27 ⟨rfl, N27q, e27⟩
    have N27 := Fr.app N26 N27q
    show Go p e below _ T27 (mkF m 36 #[.val (.int p0), .val (.int p1), .val (.int p2), .val (.int p3), .val (.int (3 : Int32)), .val (.int (0 : Int32)), .val (.int (3 : Int32)), .val (.int c0), .unset, .unset, .unset, .unset] [(.int (chF p2))])
    have bd1 := chF_bd p2
    have nr1 := chF_nar p2
    obtain ⟨c1, hc1⟩ : ∃ z, chF p2 = z := ⟨_, rfl⟩
    rw [hc1] at bd1 nr1 ⊢
    have gt1 : ¬ ((255 : Int32) < c1) := own_ngtI (m := 255) rfl (by omega)
    refine g_istore X27 K (q := 38) (L' := #[.val (.int p0), .val (.int p1), .val (.int p2), .val (.int p3), .val (.int (3 : Int32)), .val (.int (0 : Int32)), .val (.int (3 : Int32)), .val (.int c0), .val (.int c1), .unset, .unset, .unset]) at_36 rfl rfl ?_
    refine g_iloadN X27 K (q := 39) at_38 rfl rfl ?_
    refine g_static X27 K (q := 42) (W := 0) (w0 H) (w1 H) (w2 H) (w3 H) (by decide) (rm1_4 l H p3 h0 Ol0) e27 rfl (argsL := [(.int p3)]) (rest := []) (lenOf pd_2 rfl) rfl rfl (Nat.le_of_eq rfl) at_39 (by decide) (by decide) (by decide) (by decide) rfl ?_
    rintro T28 v28 L28 X28 ⟨rfl, N28q, e28⟩
    have N28 := Fr.app N27 N28q
    show Go p e below _ T28 (mkF m 42 #[.val (.int p0), .val (.int p1), .val (.int p2), .val (.int p3), .val (.int (3 : Int32)), .val (.int (0 : Int32)), .val (.int (3 : Int32)), .val (.int c0), .val (.int c1), .unset, .unset, .unset] [(.int (chF p3))])
    have bd2 := chF_bd p3
    have nr2 := chF_nar p3
    obtain ⟨c2, hc2⟩ : ∃ z, chF p3 = z := ⟨_, rfl⟩
    rw [hc2] at bd2 nr2 ⊢
    have gt2 : ¬ ((255 : Int32) < c2) := own_ngtI (m := 255) rfl (by omega)
    refine g_istore X28 K (q := 44) (L' := #[.val (.int p0), .val (.int p1), .val (.int p2), .val (.int p3), .val (.int (3 : Int32)), .val (.int (0 : Int32)), .val (.int (3 : Int32)), .val (.int c0), .val (.int c1), .val (.int c2), .unset, .unset]) at_42 rfl rfl ?_
    refine g_iload X28 K (q := 46) at_44 rfl rfl ?_
    refine g_ifY X28 K (q := 53) at_46 (by decide) (by decide) (by decide) ?_
    refine g_iload X28 K (q := 55) at_53 rfl rfl ?_
    refine g_iload X28 K (q := 57) at_55 rfl rfl ?_
    refine g_iload X28 K (q := 59) at_57 rfl rfl ?_
    refine g_iload X28 K (q := 61) at_59 rfl rfl ?_
    refine g_static X28 K (q := 64) (W := 0) (w4 H) (w5 H) (w2 H) (w6 H) (by decide) (rm2_89 l H c0 c1 c2 h0 Ol0 nr0 nr1 nr2 gt0 gt1 gt2) e28 rfl (argsL := [(.int (3 : Int32)), (.int c0), (.int c1), (.int c2)]) (rest := []) (lenOf pd_3 rfl) rfl rfl (Nat.le_of_eq rfl) at_61 (by decide) (by decide) (by decide) (by decide) rfl ?_
    rintro T29 v29 L29 X29 ⟨bx5, bx6, kB3, rfl, N29q, Kc29, lz29_0, lz29_1, g9, g10, g11, g12⟩
    have N29 := Fr.app N28 N29q
    have gebx5 := Nat.le_trans Ol0.2.1 lz29_0
    have so6 := Sd.one bx5
    have gebx6 := Nat.le_trans gebx5 (Nat.le_of_lt lz29_1)
    have so7 := so6.cons lz29_1
    have Ol29 := Ol0.keep Kc29 all0
    show Go p e below _ T29 (mkF m 64 #[.val (.int p0), .val (.int p1), .val (.int p2), .val (.int p3), .val (.int (3 : Int32)), .val (.int (0 : Int32)), .val (.int (3 : Int32)), .val (.int c0), .val (.int c1), .val (.int c2), .unset, .unset] [(.ref bx5)])
    refine g_astore X29 K (q := 66) (L' := #[.val (.int p0), .val (.int p1), .val (.int p2), .val (.int p3), .val (.int (3 : Int32)), .val (.int (0 : Int32)), .val (.int (3 : Int32)), .val (.int c0), .val (.int c1), .val (.int c2), .val (.ref bx5), .unset]) at_64 rfl rfl rfl ?_
    refine g_iload X29 K (q := 68) at_66 rfl rfl ?_
    refine g_ifY X29 K (q := 75) at_68 (by decide) (by decide) (by decide) ?_
    refine g_iload X29 K (q := 77) at_75 rfl rfl ?_
    refine g_iload X29 K (q := 79) at_77 rfl rfl ?_
    refine g_iload X29 K (q := 81) at_79 rfl rfl ?_
    refine g_static X29 K (q := 84) (W := 0) (w29 H) (w30 H) (w2 H) (w31 H) (by decide) (rm6_90 l H c0 c1 T29.heap Ol29) rfl rfl (argsL := [(.int (3 : Int32)), (.int c0), (.int c1)]) (rest := []) (lenOf pd_4 rfl) rfl rfl (Nat.le_of_eq rfl) at_81 (by decide) (by decide) (by decide) (by decide) rfl ?_
    rintro T30 v30 L30 X30 ⟨rfl, N30q, e30⟩
    have N30 := Fr.app N29 N30q
    show Go p e below _ T30 (mkF m 84 #[.val (.int p0), .val (.int p1), .val (.int p2), .val (.int p3), .val (.int (3 : Int32)), .val (.int (0 : Int32)), .val (.int (3 : Int32)), .val (.int c0), .val (.int c1), .val (.int c2), .val (.ref bx5), .unset] [.null])
    refine g_astore X30 K (q := 86) (L' := #[.val (.int p0), .val (.int p1), .val (.int p2), .val (.int p3), .val (.int (3 : Int32)), .val (.int (0 : Int32)), .val (.int (3 : Int32)), .val (.int c0), .val (.int c1), .val (.int c2), .val (.ref bx5), .val .null]) at_84 rfl rfl rfl ?_
    refine g_aload X30 K (q := 88) at_86 rfl rfl rfl ?_
    refine g_static X30 K (q := 91) (W := 0) (w32 H) (w33 H) (w34 H) (w35 H) (by decide) (rm7_103 l H bx5 bx6 c0.toInt8.toInt32 c1.toInt8.toInt32 c2.toInt8.toInt32 kB3 T29.heap Ol29 g11 g10 g12 gebx5 g9) e30 rfl (argsL := [(.ref bx5)]) (rest := []) (lenOf pd_8 rfl) rfl rfl (Nat.le_of_eq rfl) at_88 (by decide) (by decide) (by decide) (by decide) rfl ?_
    rintro T31 v31 L31 X31 ⟨rfl, N31q, Kc31⟩
    have N31 := Fr.app N30 N31q
    have Ol31 := Ol29.keep Kc31 all0
    show Go p e below _ T31 (mkF m 91 #[.val (.int p0), .val (.int p1), .val (.int p2), .val (.int p3), .val (.int (3 : Int32)), .val (.int (0 : Int32)), .val (.int (3 : Int32)), .val (.int c0), .val (.int c1), .val (.int c2), .val (.ref bx5), .val .null] [.null])
    refine g_aload X31 K (q := 93) at_91 rfl rfl rfl ?_
    refine g_ac X31 K (q := 96) (same := true) at_93 rfl rfl (decide_eq_true rfl) (by decide) (by decide) ?_
    refine g_iconst X31 K (q := 97) (v := (1 : Int32)) at_96 (by decide) rfl ?_
    refine g_goto X31 K (q := 101) at_97 (by decide) (by decide) ?_
    refine goW ?_
    refine g_nret X31 K (by simp) (z' := (1 : Int32)) (by decide) at_101 (by decide) (by decide) ?_
    exact ⟨rfl, N31⟩
  · refine g_iand X0 K (q := 4) (z := (4 : Int32)) at_3 hs1 rfl ?_
    refine g_istore X0 K (q := 6) (L' := #[.val (.int p0), .val (.int p1), .val (.int p2), .val (.int p3), .val (.int (4 : Int32)), .unset, .unset, .unset, .unset, .unset, .unset, .unset]) at_4 rfl rfl ?_
    refine g_iload X0 K (q := 8) at_6 rfl rfl ?_
    refine g_bipush X0 K (q := 10) (v := (7 : Int32)) at_8 (by decide) rfl ?_
    refine g_icY X0 K (q := 17) at_10 (by decide) (by decide) (by decide) ?_
    refine g_iconst X0 K (q := 18) (v := (0 : Int32)) at_17 (by decide) rfl ?_
    refine g_istore X0 K (q := 20) (L' := #[.val (.int p0), .val (.int p1), .val (.int p2), .val (.int p3), .val (.int (4 : Int32)), .val (.int (0 : Int32)), .unset, .unset, .unset, .unset, .unset, .unset]) at_18 rfl rfl ?_
    refine g_iload X0 K (q := 22) at_20 rfl rfl ?_
    refine g_iconst X0 K (q := 23) (v := (4 : Int32)) at_22 (by decide) rfl ?_
    refine g_irem X0 K (q := 24) at_23 (by decide) (z := (0 : Int32)) (by decide) rfl ?_
    refine g_istore X0 K (q := 26) (L' := #[.val (.int p0), .val (.int p1), .val (.int p2), .val (.int p3), .val (.int (4 : Int32)), .val (.int (0 : Int32)), .val (.int (0 : Int32)), .unset, .unset, .unset, .unset, .unset]) at_24 rfl rfl ?_
    refine g_iloadN X0 K (q := 27) at_26 rfl rfl ?_
    refine g_static X0 K (q := 30) (W := 0) (w0 H) (w1 H) (w2 H) (w3 H) (by decide) (rm1_4 l H p1 h0 Ol0) e0 rfl (argsL := [(.int p1)]) (rest := []) (lenOf pd_2 rfl) rfl rfl (Nat.le_of_eq rfl) at_27 (by decide) (by decide) (by decide) (by decide) rfl ?_
    rintro T32 v32 L32 X32 ⟨rfl, N32q, e32⟩
    have N32 := Fr.app (Fr.nil _) N32q
    show Go p e below _ T32 (mkF m 30 #[.val (.int p0), .val (.int p1), .val (.int p2), .val (.int p3), .val (.int (4 : Int32)), .val (.int (0 : Int32)), .val (.int (0 : Int32)), .unset, .unset, .unset, .unset, .unset] [(.int (chF p1))])
    have bd0 := chF_bd p1
    have nr0 := chF_nar p1
    obtain ⟨c0, hc0⟩ : ∃ z, chF p1 = z := ⟨_, rfl⟩
    rw [hc0] at bd0 nr0 ⊢
    have gt0 : ¬ ((255 : Int32) < c0) := own_ngtI (m := 255) rfl (by omega)
    refine g_istore X32 K (q := 32) (L' := #[.val (.int p0), .val (.int p1), .val (.int p2), .val (.int p3), .val (.int (4 : Int32)), .val (.int (0 : Int32)), .val (.int (0 : Int32)), .val (.int c0), .unset, .unset, .unset, .unset]) at_30 rfl rfl ?_
    refine g_iloadN X32 K (q := 33) at_32 rfl rfl ?_
    refine g_static X32 K (q := 36) (W := 0) (w0 H) (w1 H) (w2 H) (w3 H) (by decide) (rm1_4 l H p2 h0 Ol0) e32 rfl (argsL := [(.int p2)]) (rest := []) (lenOf pd_2 rfl) rfl rfl (Nat.le_of_eq rfl) at_33 (by decide) (by decide) (by decide) (by decide) rfl ?_
    rintro T33 v33 L33 X33 ⟨rfl, N33q, e33⟩
    have N33 := Fr.app N32 N33q
    show Go p e below _ T33 (mkF m 36 #[.val (.int p0), .val (.int p1), .val (.int p2), .val (.int p3), .val (.int (4 : Int32)), .val (.int (0 : Int32)), .val (.int (0 : Int32)), .val (.int c0), .unset, .unset, .unset, .unset] [(.int (chF p2))])
    have bd1 := chF_bd p2
    have nr1 := chF_nar p2
    obtain ⟨c1, hc1⟩ : ∃ z, chF p2 = z := ⟨_, rfl⟩
    rw [hc1] at bd1 nr1 ⊢
    have gt1 : ¬ ((255 : Int32) < c1) := own_ngtI (m := 255) rfl (by omega)
    refine g_istore X33 K (q := 38) (L' := #[.val (.int p0), .val (.int p1), .val (.int p2), .val (.int p3), .val (.int (4 : Int32)), .val (.int (0 : Int32)), .val (.int (0 : Int32)), .val (.int c0), .val (.int c1), .unset, .unset, .unset]) at_36 rfl rfl ?_
    refine g_iloadN X33 K (q := 39) at_38 rfl rfl ?_
    refine g_static X33 K (q := 42) (W := 0) (w0 H) (w1 H) (w2 H) (w3 H) (by decide) (rm1_4 l H p3 h0 Ol0) e33 rfl (argsL := [(.int p3)]) (rest := []) (lenOf pd_2 rfl) rfl rfl (Nat.le_of_eq rfl) at_39 (by decide) (by decide) (by decide) (by decide) rfl ?_
    rintro T34 v34 L34 X34 ⟨rfl, N34q, e34⟩
    have N34 := Fr.app N33 N34q
    show Go p e below _ T34 (mkF m 42 #[.val (.int p0), .val (.int p1), .val (.int p2), .val (.int p3), .val (.int (4 : Int32)), .val (.int (0 : Int32)), .val (.int (0 : Int32)), .val (.int c0), .val (.int c1), .unset, .unset, .unset] [(.int (chF p3))])
    have bd2 := chF_bd p3
    have nr2 := chF_nar p3
    obtain ⟨c2, hc2⟩ : ∃ z, chF p3 = z := ⟨_, rfl⟩
    rw [hc2] at bd2 nr2 ⊢
    have gt2 : ¬ ((255 : Int32) < c2) := own_ngtI (m := 255) rfl (by omega)
    refine g_istore X34 K (q := 44) (L' := #[.val (.int p0), .val (.int p1), .val (.int p2), .val (.int p3), .val (.int (4 : Int32)), .val (.int (0 : Int32)), .val (.int (0 : Int32)), .val (.int c0), .val (.int c1), .val (.int c2), .unset, .unset]) at_42 rfl rfl ?_
    refine g_iload X34 K (q := 46) at_44 rfl rfl ?_
    refine g_ifY X34 K (q := 53) at_46 (by decide) (by decide) (by decide) ?_
    refine g_iload X34 K (q := 55) at_53 rfl rfl ?_
    refine g_iload X34 K (q := 57) at_55 rfl rfl ?_
    refine g_iload X34 K (q := 59) at_57 rfl rfl ?_
    refine g_iload X34 K (q := 61) at_59 rfl rfl ?_
    refine g_staticS X34 K (q := 64) (W := 0) I0 (w4 H) (w5 H) (w2 H) (w6 H) (by decide) (rmM0 l H c0 c1 c2 h0 Ol0) e34 rfl (argsL := [(.int (0 : Int32)), (.int c0), (.int c1), (.int c2)]) (rest := []) (lenOf pd_3 rfl) rfl rfl (Nat.le_of_eq rfl) at_61 (by decide) (by decide) (by decide) (by decide) rfl ?_
    rintro T35 vm35 v35 L35 X35 K hS35 ⟨bx35, by35, kB35, rfl, N35q, Kc35, lz35, g35E, g35V, g35C, g35A⟩
    have N35 := Fr.app N34 N35q
    have gebx35 := Nat.le_trans Ol0.2.1 lz35
    have so8 := Sd.one bx35
    have Ol35 := Ol0.keep Kc35 all0
    show Go p e below _ T35 (mkF m 64 #[.val (.int p0), .val (.int p1), .val (.int p2), .val (.int p3), .val (.int (4 : Int32)), .val (.int (0 : Int32)), .val (.int (0 : Int32)), .val (.int c0), .val (.int c1), .val (.int c2), .unset, .unset] [(.ref bx35)])
    refine g_astore X35 K (q := 66) (L' := #[.val (.int p0), .val (.int p1), .val (.int p2), .val (.int p3), .val (.int (4 : Int32)), .val (.int (0 : Int32)), .val (.int (0 : Int32)), .val (.int c0), .val (.int c1), .val (.int c2), .val (.ref bx35), .unset]) at_64 rfl rfl rfl ?_
    refine g_iload X35 K (q := 68) at_66 rfl rfl ?_
    refine g_ifY X35 K (q := 75) at_68 (by decide) (by decide) (by decide) ?_
    refine g_iload X35 K (q := 77) at_75 rfl rfl ?_
    refine g_iload X35 K (q := 79) at_77 rfl rfl ?_
    refine g_iload X35 K (q := 81) at_79 rfl rfl ?_
    refine g_static X35 K (q := 84) (W := 0) (w29 H) (w30 H) (w2 H) (w31 H) (by decide) (rm6_5 l H c0 c1 T35.heap Ol35) rfl rfl (argsL := [(.int (0 : Int32)), (.int c0), (.int c1)]) (rest := []) (lenOf pd_4 rfl) rfl rfl (Nat.le_of_eq rfl) at_81 (by decide) (by decide) (by decide) (by decide) rfl ?_
    rintro T36 v36 L36 X36 ⟨rfl, N36q, e36⟩
    have N36 := Fr.app N35 N36q
    show Go p e below _ T36 (mkF m 84 #[.val (.int p0), .val (.int p1), .val (.int p2), .val (.int p3), .val (.int (4 : Int32)), .val (.int (0 : Int32)), .val (.int (0 : Int32)), .val (.int c0), .val (.int c1), .val (.int c2), .val (.ref bx35), .unset] [.null])
    refine g_astore X36 K (q := 86) (L' := #[.val (.int p0), .val (.int p1), .val (.int p2), .val (.int p3), .val (.int (4 : Int32)), .val (.int (0 : Int32)), .val (.int (0 : Int32)), .val (.int c0), .val (.int c1), .val (.int c2), .val (.ref bx35), .val .null]) at_84 rfl rfl rfl ?_
    refine g_aload X36 K (q := 88) at_86 rfl rfl rfl ?_
    refine g_static X36 K (q := 91) (W := 0) (w32 H) (w33 H) (w34 H) (w35 H) (by decide) (rm7_19 l H bx35 by35 kB35 T35.heap Ol35 g35C g35V g35A gebx35 g35E) e36 rfl (argsL := [(.ref bx35)]) (rest := []) (lenOf pd_8 rfl) rfl rfl (Nat.le_of_eq rfl) at_88 (by decide) (by decide) (by decide) (by decide) rfl ?_
    rintro T37 v37 L37 X37 ⟨rfl, N37q, Kc37⟩
    have N37 := Fr.app N36 N37q
    have Ol37 := Ol35.keep Kc37 all0
    show Go p e below _ T37 (mkF m 91 #[.val (.int p0), .val (.int p1), .val (.int p2), .val (.int p3), .val (.int (4 : Int32)), .val (.int (0 : Int32)), .val (.int (0 : Int32)), .val (.int c0), .val (.int c1), .val (.int c2), .val (.ref bx35), .val .null] [.null])
    refine g_aload X37 K (q := 93) at_91 rfl rfl rfl ?_
    refine g_ac X37 K (q := 96) (same := true) at_93 rfl rfl (decide_eq_true rfl) (by decide) (by decide) ?_
    refine g_iconst X37 K (q := 97) (v := (1 : Int32)) at_96 (by decide) rfl ?_
    refine g_goto X37 K (q := 101) at_97 (by decide) (by decide) ?_
    have hk : T35.heap.size ≤ T37.heap.size := Kc37.1
    refine g_nretS X37 K hS35 hk (by simp) (z' := (1 : Int32)) (by decide) at_101 (by decide) (by decide) ?_
    exact ⟨rfl, N37⟩
  · refine g_iand X0 K (q := 4) (z := (5 : Int32)) at_3 hs1 rfl ?_
    refine g_istore X0 K (q := 6) (L' := #[.val (.int p0), .val (.int p1), .val (.int p2), .val (.int p3), .val (.int (5 : Int32)), .unset, .unset, .unset, .unset, .unset, .unset, .unset]) at_4 rfl rfl ?_
    refine g_iload X0 K (q := 8) at_6 rfl rfl ?_
    refine g_bipush X0 K (q := 10) (v := (7 : Int32)) at_8 (by decide) rfl ?_
    refine g_icY X0 K (q := 17) at_10 (by decide) (by decide) (by decide) ?_
    refine g_iconst X0 K (q := 18) (v := (0 : Int32)) at_17 (by decide) rfl ?_
    refine g_istore X0 K (q := 20) (L' := #[.val (.int p0), .val (.int p1), .val (.int p2), .val (.int p3), .val (.int (5 : Int32)), .val (.int (0 : Int32)), .unset, .unset, .unset, .unset, .unset, .unset]) at_18 rfl rfl ?_
    refine g_iload X0 K (q := 22) at_20 rfl rfl ?_
    refine g_iconst X0 K (q := 23) (v := (4 : Int32)) at_22 (by decide) rfl ?_
    refine g_irem X0 K (q := 24) at_23 (by decide) (z := (1 : Int32)) (by decide) rfl ?_
    refine g_istore X0 K (q := 26) (L' := #[.val (.int p0), .val (.int p1), .val (.int p2), .val (.int p3), .val (.int (5 : Int32)), .val (.int (0 : Int32)), .val (.int (1 : Int32)), .unset, .unset, .unset, .unset, .unset]) at_24 rfl rfl ?_
    refine g_iloadN X0 K (q := 27) at_26 rfl rfl ?_
    refine g_static X0 K (q := 30) (W := 0) (w0 H) (w1 H) (w2 H) (w3 H) (by decide) (rm1_4 l H p1 h0 Ol0) e0 rfl (argsL := [(.int p1)]) (rest := []) (lenOf pd_2 rfl) rfl rfl (Nat.le_of_eq rfl) at_27 (by decide) (by decide) (by decide) (by decide) rfl ?_
    rintro T38 v38 L38 X38 ⟨rfl, N38q, e38⟩
    have N38 := Fr.app (Fr.nil _) N38q
    show Go p e below _ T38 (mkF m 30 #[.val (.int p0), .val (.int p1), .val (.int p2), .val (.int p3), .val (.int (5 : Int32)), .val (.int (0 : Int32)), .val (.int (1 : Int32)), .unset, .unset, .unset, .unset, .unset] [(.int (chF p1))])
    have bd0 := chF_bd p1
    have nr0 := chF_nar p1
    obtain ⟨c0, hc0⟩ : ∃ z, chF p1 = z := ⟨_, rfl⟩
    rw [hc0] at bd0 nr0 ⊢
    have gt0 : ¬ ((255 : Int32) < c0) := own_ngtI (m := 255) rfl (by omega)
    refine g_istore X38 K (q := 32) (L' := #[.val (.int p0), .val (.int p1), .val (.int p2), .val (.int p3), .val (.int (5 : Int32)), .val (.int (0 : Int32)), .val (.int (1 : Int32)), .val (.int c0), .unset, .unset, .unset, .unset]) at_30 rfl rfl ?_
    refine g_iloadN X38 K (q := 33) at_32 rfl rfl ?_
    refine g_static X38 K (q := 36) (W := 0) (w0 H) (w1 H) (w2 H) (w3 H) (by decide) (rm1_4 l H p2 h0 Ol0) e38 rfl (argsL := [(.int p2)]) (rest := []) (lenOf pd_2 rfl) rfl rfl (Nat.le_of_eq rfl) at_33 (by decide) (by decide) (by decide) (by decide) rfl ?_
    rintro T39 v39 L39 X39 ⟨rfl, N39q, e39⟩
    have N39 := Fr.app N38 N39q
    show Go p e below _ T39 (mkF m 36 #[.val (.int p0), .val (.int p1), .val (.int p2), .val (.int p3), .val (.int (5 : Int32)), .val (.int (0 : Int32)), .val (.int (1 : Int32)), .val (.int c0), .unset, .unset, .unset, .unset] [(.int (chF p2))])
    have bd1 := chF_bd p2
    have nr1 := chF_nar p2
    obtain ⟨c1, hc1⟩ : ∃ z, chF p2 = z := ⟨_, rfl⟩
    rw [hc1] at bd1 nr1 ⊢
    have gt1 : ¬ ((255 : Int32) < c1) := own_ngtI (m := 255) rfl (by omega)
    refine g_istore X39 K (q := 38) (L' := #[.val (.int p0), .val (.int p1), .val (.int p2), .val (.int p3), .val (.int (5 : Int32)), .val (.int (0 : Int32)), .val (.int (1 : Int32)), .val (.int c0), .val (.int c1), .unset, .unset, .unset]) at_36 rfl rfl ?_
    refine g_iloadN X39 K (q := 39) at_38 rfl rfl ?_
    refine g_static X39 K (q := 42) (W := 0) (w0 H) (w1 H) (w2 H) (w3 H) (by decide) (rm1_4 l H p3 h0 Ol0) e39 rfl (argsL := [(.int p3)]) (rest := []) (lenOf pd_2 rfl) rfl rfl (Nat.le_of_eq rfl) at_39 (by decide) (by decide) (by decide) (by decide) rfl ?_
    rintro T40 v40 L40 X40 ⟨rfl, N40q, e40⟩
    have N40 := Fr.app N39 N40q
    show Go p e below _ T40 (mkF m 42 #[.val (.int p0), .val (.int p1), .val (.int p2), .val (.int p3), .val (.int (5 : Int32)), .val (.int (0 : Int32)), .val (.int (1 : Int32)), .val (.int c0), .val (.int c1), .unset, .unset, .unset] [(.int (chF p3))])
    have bd2 := chF_bd p3
    have nr2 := chF_nar p3
    obtain ⟨c2, hc2⟩ : ∃ z, chF p3 = z := ⟨_, rfl⟩
    rw [hc2] at bd2 nr2 ⊢
    have gt2 : ¬ ((255 : Int32) < c2) := own_ngtI (m := 255) rfl (by omega)
    refine g_istore X40 K (q := 44) (L' := #[.val (.int p0), .val (.int p1), .val (.int p2), .val (.int p3), .val (.int (5 : Int32)), .val (.int (0 : Int32)), .val (.int (1 : Int32)), .val (.int c0), .val (.int c1), .val (.int c2), .unset, .unset]) at_42 rfl rfl ?_
    refine g_iload X40 K (q := 46) at_44 rfl rfl ?_
    refine g_ifY X40 K (q := 53) at_46 (by decide) (by decide) (by decide) ?_
    refine g_iload X40 K (q := 55) at_53 rfl rfl ?_
    refine g_iload X40 K (q := 57) at_55 rfl rfl ?_
    refine g_iload X40 K (q := 59) at_57 rfl rfl ?_
    refine g_iload X40 K (q := 61) at_59 rfl rfl ?_
    refine g_static X40 K (q := 64) (W := 0) (w4 H) (w5 H) (w2 H) (w6 H) (by decide) (rm2_24 l H c0 c1 c2 h0 Ol0 gt0) e40 rfl (argsL := [(.int (1 : Int32)), (.int c0), (.int c1), (.int c2)]) (rest := []) (lenOf pd_3 rfl) rfl rfl (Nat.le_of_eq rfl) at_61 (by decide) (by decide) (by decide) (by decide) rfl ?_
    rintro T41 v41 L41 X41 ⟨bx7, bx8, kB4, rfl, N41q, Kc41, lz41_0, lz41_1, g13, g14, g15, g16⟩
    have N41 := Fr.app N40 N41q
    have gebx7 := Nat.le_trans Ol0.2.1 lz41_0
    have so9 := Sd.one bx7
    have gebx8 := Nat.le_trans gebx7 (Nat.le_of_lt lz41_1)
    have so10 := so9.cons lz41_1
    have Ol41 := Ol0.keep Kc41 all0
    show Go p e below _ T41 (mkF m 64 #[.val (.int p0), .val (.int p1), .val (.int p2), .val (.int p3), .val (.int (5 : Int32)), .val (.int (0 : Int32)), .val (.int (1 : Int32)), .val (.int c0), .val (.int c1), .val (.int c2), .unset, .unset] [(.ref bx7)])
    refine g_astore X41 K (q := 66) (L' := #[.val (.int p0), .val (.int p1), .val (.int p2), .val (.int p3), .val (.int (5 : Int32)), .val (.int (0 : Int32)), .val (.int (1 : Int32)), .val (.int c0), .val (.int c1), .val (.int c2), .val (.ref bx7), .unset]) at_64 rfl rfl rfl ?_
    refine g_iload X41 K (q := 68) at_66 rfl rfl ?_
    refine g_ifY X41 K (q := 75) at_68 (by decide) (by decide) (by decide) ?_
    refine g_iload X41 K (q := 77) at_75 rfl rfl ?_
    refine g_iload X41 K (q := 79) at_77 rfl rfl ?_
    refine g_iload X41 K (q := 81) at_79 rfl rfl ?_
    refine g_static X41 K (q := 84) (W := 0) (w29 H) (w30 H) (w2 H) (w31 H) (by decide) (rm6_25 l H c0 c1 T41.heap Ol41) rfl rfl (argsL := [(.int (1 : Int32)), (.int c0), (.int c1)]) (rest := []) (lenOf pd_4 rfl) rfl rfl (Nat.le_of_eq rfl) at_81 (by decide) (by decide) (by decide) (by decide) rfl ?_
    rintro T42 v42 L42 X42 (⟨hc48, rfl, N42q, e42⟩ | ⟨hc49, hc50, rfl, N42q, e42⟩ | ⟨hc51, hc52, hc53, rfl, N42q, e42⟩ | ⟨hc54, hc55, hc56, rfl, N42q, e42⟩)
    · have N42 := Fr.app N41 N42q
      show Go p e below _ T42 (mkF m 84 #[.val (.int p0), .val (.int p1), .val (.int p2), .val (.int p3), .val (.int (5 : Int32)), .val (.int (0 : Int32)), .val (.int (1 : Int32)), .val (.int c0), .val (.int c1), .val (.int c2), .val (.ref bx7), .unset] [(.ref (ad1 Z a0))])
      refine g_astore X42 K (q := 86) (L' := #[.val (.int p0), .val (.int p1), .val (.int p2), .val (.int p3), .val (.int (5 : Int32)), .val (.int (0 : Int32)), .val (.int (1 : Int32)), .val (.int c0), .val (.int c1), .val (.int c2), .val (.ref bx7), .val (.ref (ad1 Z a0))]) at_84 rfl rfl rfl ?_
      refine g_aload X42 K (q := 88) at_86 rfl rfl rfl ?_
      refine g_static X42 K (q := 91) (W := 0) (w32 H) (w33 H) (w34 H) (w35 H) (by decide) (rm7_28 l H bx7 bx8 c0.toInt8.toInt32 kB4 T41.heap Ol41 g15 g14 g16 ((b8 bd0 (n := 61) rfl (by decide)).mpr hc48) gebx7 g13) e42 rfl (argsL := [(.ref bx7)]) (rest := []) (lenOf pd_8 rfl) rfl rfl (Nat.le_of_eq rfl) at_88 (by decide) (by decide) (by decide) (by decide) rfl ?_
      rintro T43 v43 L43 X43 ⟨rfl, N43q, Kc43⟩
      have N43 := Fr.app N42 N43q
      have Ol43 := Ol41.keep Kc43 all0
      show Go p e below _ T43 (mkF m 91 #[.val (.int p0), .val (.int p1), .val (.int p2), .val (.int p3), .val (.int (5 : Int32)), .val (.int (0 : Int32)), .val (.int (1 : Int32)), .val (.int c0), .val (.int c1), .val (.int c2), .val (.ref bx7), .val (.ref (ad1 Z a0))] [(.ref (ad1 Z a0))])
      refine g_aload X43 K (q := 93) at_91 rfl rfl rfl ?_
      refine g_ac X43 K (q := 96) (same := true) at_93 rfl rfl (decide_eq_true rfl) (by decide) (by decide) ?_
      refine g_iconst X43 K (q := 97) (v := (1 : Int32)) at_96 (by decide) rfl ?_
      refine g_goto X43 K (q := 101) at_97 (by decide) (by decide) ?_
      refine goW ?_
      refine g_nret X43 K (by simp) (z' := (1 : Int32)) (by decide) at_101 (by decide) (by decide) ?_
      exact ⟨rfl, N43⟩
    · have N42 := Fr.app N41 N42q
      show Go p e below _ T42 (mkF m 84 #[.val (.int p0), .val (.int p1), .val (.int p2), .val (.int p3), .val (.int (5 : Int32)), .val (.int (0 : Int32)), .val (.int (1 : Int32)), .val (.int c0), .val (.int c1), .val (.int c2), .val (.ref bx7), .unset] [(.ref (ad3 Z a0))])
      refine g_astore X42 K (q := 86) (L' := #[.val (.int p0), .val (.int p1), .val (.int p2), .val (.int p3), .val (.int (5 : Int32)), .val (.int (0 : Int32)), .val (.int (1 : Int32)), .val (.int c0), .val (.int c1), .val (.int c2), .val (.ref bx7), .val (.ref (ad3 Z a0))]) at_84 rfl rfl rfl ?_
      refine g_aload X42 K (q := 88) at_86 rfl rfl rfl ?_
      refine g_static X42 K (q := 91) (W := 0) (w32 H) (w33 H) (w34 H) (w35 H) (by decide) (rm7_35 l H bx7 bx8 c0.toInt8.toInt32 kB4 T41.heap Ol41 g15 g14 g16 (fun z => hc49 ((b8 bd0 (n := 61) rfl (by decide)).mp z)) gebx7 g13 ((b8 bd0 (n := 60) rfl (by decide)).mpr hc50)) e42 rfl (argsL := [(.ref bx7)]) (rest := []) (lenOf pd_8 rfl) rfl rfl (Nat.le_of_eq rfl) at_88 (by decide) (by decide) (by decide) (by decide) rfl ?_
      rintro T44 v44 L44 X44 ⟨rfl, N44q, Kc44⟩
      have N44 := Fr.app N42 N44q
      have Ol44 := Ol41.keep Kc44 all0
      show Go p e below _ T44 (mkF m 91 #[.val (.int p0), .val (.int p1), .val (.int p2), .val (.int p3), .val (.int (5 : Int32)), .val (.int (0 : Int32)), .val (.int (1 : Int32)), .val (.int c0), .val (.int c1), .val (.int c2), .val (.ref bx7), .val (.ref (ad3 Z a0))] [(.ref (ad3 Z a0))])
      refine g_aload X44 K (q := 93) at_91 rfl rfl rfl ?_
      refine g_ac X44 K (q := 96) (same := true) at_93 rfl rfl (decide_eq_true rfl) (by decide) (by decide) ?_
      refine g_iconst X44 K (q := 97) (v := (1 : Int32)) at_96 (by decide) rfl ?_
      refine g_goto X44 K (q := 101) at_97 (by decide) (by decide) ?_
      refine goW ?_
      refine g_nret X44 K (by simp) (z' := (1 : Int32)) (by decide) at_101 (by decide) (by decide) ?_
      exact ⟨rfl, N44⟩
    · have N42 := Fr.app N41 N42q
      show Go p e below _ T42 (mkF m 84 #[.val (.int p0), .val (.int p1), .val (.int p2), .val (.int p3), .val (.int (5 : Int32)), .val (.int (0 : Int32)), .val (.int (1 : Int32)), .val (.int c0), .val (.int c1), .val (.int c2), .val (.ref bx7), .unset] [(.ref (ad5 Z a0))])
      refine g_astore X42 K (q := 86) (L' := #[.val (.int p0), .val (.int p1), .val (.int p2), .val (.int p3), .val (.int (5 : Int32)), .val (.int (0 : Int32)), .val (.int (1 : Int32)), .val (.int c0), .val (.int c1), .val (.int c2), .val (.ref bx7), .val (.ref (ad5 Z a0))]) at_84 rfl rfl rfl ?_
      refine g_aload X42 K (q := 88) at_86 rfl rfl rfl ?_
      refine g_static X42 K (q := 91) (W := 0) (w32 H) (w33 H) (w34 H) (w35 H) (by decide) (rm7_42 l H bx7 bx8 c0.toInt8.toInt32 kB4 T41.heap Ol41 g15 g14 g16 (fun z => hc51 ((b8 bd0 (n := 61) rfl (by decide)).mp z)) gebx7 g13 (fun z => hc52 ((b8 bd0 (n := 60) rfl (by decide)).mp z)) ((b8 bd0 (n := 62) rfl (by decide)).mpr hc53)) e42 rfl (argsL := [(.ref bx7)]) (rest := []) (lenOf pd_8 rfl) rfl rfl (Nat.le_of_eq rfl) at_88 (by decide) (by decide) (by decide) (by decide) rfl ?_
      rintro T45 v45 L45 X45 ⟨rfl, N45q, Kc45⟩
      have N45 := Fr.app N42 N45q
      have Ol45 := Ol41.keep Kc45 all0
      show Go p e below _ T45 (mkF m 91 #[.val (.int p0), .val (.int p1), .val (.int p2), .val (.int p3), .val (.int (5 : Int32)), .val (.int (0 : Int32)), .val (.int (1 : Int32)), .val (.int c0), .val (.int c1), .val (.int c2), .val (.ref bx7), .val (.ref (ad5 Z a0))] [(.ref (ad5 Z a0))])
      refine g_aload X45 K (q := 93) at_91 rfl rfl rfl ?_
      refine g_ac X45 K (q := 96) (same := true) at_93 rfl rfl (decide_eq_true rfl) (by decide) (by decide) ?_
      refine g_iconst X45 K (q := 97) (v := (1 : Int32)) at_96 (by decide) rfl ?_
      refine g_goto X45 K (q := 101) at_97 (by decide) (by decide) ?_
      refine goW ?_
      refine g_nret X45 K (by simp) (z' := (1 : Int32)) (by decide) at_101 (by decide) (by decide) ?_
      exact ⟨rfl, N45⟩
    · have N42 := Fr.app N41 N42q
      show Go p e below _ T42 (mkF m 84 #[.val (.int p0), .val (.int p1), .val (.int p2), .val (.int p3), .val (.int (5 : Int32)), .val (.int (0 : Int32)), .val (.int (1 : Int32)), .val (.int c0), .val (.int c1), .val (.int c2), .val (.ref bx7), .unset] [.null])
      refine g_astore X42 K (q := 86) (L' := #[.val (.int p0), .val (.int p1), .val (.int p2), .val (.int p3), .val (.int (5 : Int32)), .val (.int (0 : Int32)), .val (.int (1 : Int32)), .val (.int c0), .val (.int c1), .val (.int c2), .val (.ref bx7), .val .null]) at_84 rfl rfl rfl ?_
      refine g_aload X42 K (q := 88) at_86 rfl rfl rfl ?_
      refine g_static X42 K (q := 91) (W := 0) (w32 H) (w33 H) (w34 H) (w35 H) (by decide) (rm7_47 l H bx7 bx8 c0.toInt8.toInt32 kB4 T41.heap Ol41 g15 g14 g16 (fun z => hc54 ((b8 bd0 (n := 61) rfl (by decide)).mp z)) gebx7 g13 (fun z => hc55 ((b8 bd0 (n := 60) rfl (by decide)).mp z)) (fun z => hc56 ((b8 bd0 (n := 62) rfl (by decide)).mp z))) e42 rfl (argsL := [(.ref bx7)]) (rest := []) (lenOf pd_8 rfl) rfl rfl (Nat.le_of_eq rfl) at_88 (by decide) (by decide) (by decide) (by decide) rfl ?_
      rintro T46 v46 L46 X46 ⟨rfl, N46q, Kc46⟩
      have N46 := Fr.app N42 N46q
      have Ol46 := Ol41.keep Kc46 all0
      show Go p e below _ T46 (mkF m 91 #[.val (.int p0), .val (.int p1), .val (.int p2), .val (.int p3), .val (.int (5 : Int32)), .val (.int (0 : Int32)), .val (.int (1 : Int32)), .val (.int c0), .val (.int c1), .val (.int c2), .val (.ref bx7), .val .null] [.null])
      refine g_aload X46 K (q := 93) at_91 rfl rfl rfl ?_
      refine g_ac X46 K (q := 96) (same := true) at_93 rfl rfl (decide_eq_true rfl) (by decide) (by decide) ?_
      refine g_iconst X46 K (q := 97) (v := (1 : Int32)) at_96 (by decide) rfl ?_
      refine g_goto X46 K (q := 101) at_97 (by decide) (by decide) ?_
      refine goW ?_
      refine g_nret X46 K (by simp) (z' := (1 : Int32)) (by decide) at_101 (by decide) (by decide) ?_
      exact ⟨rfl, N46⟩
  · refine g_iand X0 K (q := 4) (z := (6 : Int32)) at_3 hs1 rfl ?_
    refine g_istore X0 K (q := 6) (L' := #[.val (.int p0), .val (.int p1), .val (.int p2), .val (.int p3), .val (.int (6 : Int32)), .unset, .unset, .unset, .unset, .unset, .unset, .unset]) at_4 rfl rfl ?_
    refine g_iload X0 K (q := 8) at_6 rfl rfl ?_
    refine g_bipush X0 K (q := 10) (v := (7 : Int32)) at_8 (by decide) rfl ?_
    refine g_icY X0 K (q := 17) at_10 (by decide) (by decide) (by decide) ?_
    refine g_iconst X0 K (q := 18) (v := (0 : Int32)) at_17 (by decide) rfl ?_
    refine g_istore X0 K (q := 20) (L' := #[.val (.int p0), .val (.int p1), .val (.int p2), .val (.int p3), .val (.int (6 : Int32)), .val (.int (0 : Int32)), .unset, .unset, .unset, .unset, .unset, .unset]) at_18 rfl rfl ?_
    refine g_iload X0 K (q := 22) at_20 rfl rfl ?_
    refine g_iconst X0 K (q := 23) (v := (4 : Int32)) at_22 (by decide) rfl ?_
    refine g_irem X0 K (q := 24) at_23 (by decide) (z := (2 : Int32)) (by decide) rfl ?_
    refine g_istore X0 K (q := 26) (L' := #[.val (.int p0), .val (.int p1), .val (.int p2), .val (.int p3), .val (.int (6 : Int32)), .val (.int (0 : Int32)), .val (.int (2 : Int32)), .unset, .unset, .unset, .unset, .unset]) at_24 rfl rfl ?_
    refine g_iloadN X0 K (q := 27) at_26 rfl rfl ?_
    refine g_static X0 K (q := 30) (W := 0) (w0 H) (w1 H) (w2 H) (w3 H) (by decide) (rm1_4 l H p1 h0 Ol0) e0 rfl (argsL := [(.int p1)]) (rest := []) (lenOf pd_2 rfl) rfl rfl (Nat.le_of_eq rfl) at_27 (by decide) (by decide) (by decide) (by decide) rfl ?_
    rintro T47 v47 L47 X47 ⟨rfl, N47q, e47⟩
    have N47 := Fr.app (Fr.nil _) N47q
    show Go p e below _ T47 (mkF m 30 #[.val (.int p0), .val (.int p1), .val (.int p2), .val (.int p3), .val (.int (6 : Int32)), .val (.int (0 : Int32)), .val (.int (2 : Int32)), .unset, .unset, .unset, .unset, .unset] [(.int (chF p1))])
    have bd0 := chF_bd p1
    have nr0 := chF_nar p1
    obtain ⟨c0, hc0⟩ : ∃ z, chF p1 = z := ⟨_, rfl⟩
    rw [hc0] at bd0 nr0 ⊢
    have gt0 : ¬ ((255 : Int32) < c0) := own_ngtI (m := 255) rfl (by omega)
    refine g_istore X47 K (q := 32) (L' := #[.val (.int p0), .val (.int p1), .val (.int p2), .val (.int p3), .val (.int (6 : Int32)), .val (.int (0 : Int32)), .val (.int (2 : Int32)), .val (.int c0), .unset, .unset, .unset, .unset]) at_30 rfl rfl ?_
    refine g_iloadN X47 K (q := 33) at_32 rfl rfl ?_
    refine g_static X47 K (q := 36) (W := 0) (w0 H) (w1 H) (w2 H) (w3 H) (by decide) (rm1_4 l H p2 h0 Ol0) e47 rfl (argsL := [(.int p2)]) (rest := []) (lenOf pd_2 rfl) rfl rfl (Nat.le_of_eq rfl) at_33 (by decide) (by decide) (by decide) (by decide) rfl ?_
    rintro T48 v48 L48 X48 ⟨rfl, N48q, e48⟩
    have N48 := Fr.app N47 N48q
    show Go p e below _ T48 (mkF m 36 #[.val (.int p0), .val (.int p1), .val (.int p2), .val (.int p3), .val (.int (6 : Int32)), .val (.int (0 : Int32)), .val (.int (2 : Int32)), .val (.int c0), .unset, .unset, .unset, .unset] [(.int (chF p2))])
    have bd1 := chF_bd p2
    have nr1 := chF_nar p2
    obtain ⟨c1, hc1⟩ : ∃ z, chF p2 = z := ⟨_, rfl⟩
    rw [hc1] at bd1 nr1 ⊢
    have gt1 : ¬ ((255 : Int32) < c1) := own_ngtI (m := 255) rfl (by omega)
    refine g_istore X48 K (q := 38) (L' := #[.val (.int p0), .val (.int p1), .val (.int p2), .val (.int p3), .val (.int (6 : Int32)), .val (.int (0 : Int32)), .val (.int (2 : Int32)), .val (.int c0), .val (.int c1), .unset, .unset, .unset]) at_36 rfl rfl ?_
    refine g_iloadN X48 K (q := 39) at_38 rfl rfl ?_
    refine g_static X48 K (q := 42) (W := 0) (w0 H) (w1 H) (w2 H) (w3 H) (by decide) (rm1_4 l H p3 h0 Ol0) e48 rfl (argsL := [(.int p3)]) (rest := []) (lenOf pd_2 rfl) rfl rfl (Nat.le_of_eq rfl) at_39 (by decide) (by decide) (by decide) (by decide) rfl ?_
    rintro T49 v49 L49 X49 ⟨rfl, N49q, e49⟩
    have N49 := Fr.app N48 N49q
    show Go p e below _ T49 (mkF m 42 #[.val (.int p0), .val (.int p1), .val (.int p2), .val (.int p3), .val (.int (6 : Int32)), .val (.int (0 : Int32)), .val (.int (2 : Int32)), .val (.int c0), .val (.int c1), .unset, .unset, .unset] [(.int (chF p3))])
    have bd2 := chF_bd p3
    have nr2 := chF_nar p3
    obtain ⟨c2, hc2⟩ : ∃ z, chF p3 = z := ⟨_, rfl⟩
    rw [hc2] at bd2 nr2 ⊢
    have gt2 : ¬ ((255 : Int32) < c2) := own_ngtI (m := 255) rfl (by omega)
    refine g_istore X49 K (q := 44) (L' := #[.val (.int p0), .val (.int p1), .val (.int p2), .val (.int p3), .val (.int (6 : Int32)), .val (.int (0 : Int32)), .val (.int (2 : Int32)), .val (.int c0), .val (.int c1), .val (.int c2), .unset, .unset]) at_42 rfl rfl ?_
    refine g_iload X49 K (q := 46) at_44 rfl rfl ?_
    refine g_ifY X49 K (q := 53) at_46 (by decide) (by decide) (by decide) ?_
    refine g_iload X49 K (q := 55) at_53 rfl rfl ?_
    refine g_iload X49 K (q := 57) at_55 rfl rfl ?_
    refine g_iload X49 K (q := 59) at_57 rfl rfl ?_
    refine g_iload X49 K (q := 61) at_59 rfl rfl ?_
    refine g_static X49 K (q := 64) (W := 0) (w4 H) (w5 H) (w2 H) (w6 H) (by decide) (rm2_53 l H c0 c1 c2 h0 Ol0 nr0 nr1 gt0 gt1) e49 rfl (argsL := [(.int (2 : Int32)), (.int c0), (.int c1), (.int c2)]) (rest := []) (lenOf pd_3 rfl) rfl rfl (Nat.le_of_eq rfl) at_61 (by decide) (by decide) (by decide) (by decide) rfl ?_
    rintro T50 v50 L50 X50 ⟨bx9, bx10, kB5, rfl, N50q, Kc50, lz50_0, lz50_1, g17, g18, g19, g20⟩
    have N50 := Fr.app N49 N50q
    have gebx9 := Nat.le_trans Ol0.2.1 lz50_0
    have so11 := Sd.one bx9
    have gebx10 := Nat.le_trans gebx9 (Nat.le_of_lt lz50_1)
    have so12 := so11.cons lz50_1
    have Ol50 := Ol0.keep Kc50 all0
    show Go p e below _ T50 (mkF m 64 #[.val (.int p0), .val (.int p1), .val (.int p2), .val (.int p3), .val (.int (6 : Int32)), .val (.int (0 : Int32)), .val (.int (2 : Int32)), .val (.int c0), .val (.int c1), .val (.int c2), .unset, .unset] [(.ref bx9)])
    refine g_astore X50 K (q := 66) (L' := #[.val (.int p0), .val (.int p1), .val (.int p2), .val (.int p3), .val (.int (6 : Int32)), .val (.int (0 : Int32)), .val (.int (2 : Int32)), .val (.int c0), .val (.int c1), .val (.int c2), .val (.ref bx9), .unset]) at_64 rfl rfl rfl ?_
    refine g_iload X50 K (q := 68) at_66 rfl rfl ?_
    refine g_ifY X50 K (q := 75) at_68 (by decide) (by decide) (by decide) ?_
    refine g_iload X50 K (q := 77) at_75 rfl rfl ?_
    refine g_iload X50 K (q := 79) at_77 rfl rfl ?_
    refine g_iload X50 K (q := 81) at_79 rfl rfl ?_
    refine g_static X50 K (q := 84) (W := 0) (w29 H) (w30 H) (w2 H) (w31 H) (by decide) (rm6_54 l H c0 c1 T50.heap Ol50) rfl rfl (argsL := [(.int (2 : Int32)), (.int c0), (.int c1)]) (rest := []) (lenOf pd_4 rfl) rfl rfl (Nat.le_of_eq rfl) at_81 (by decide) (by decide) (by decide) (by decide) rfl ?_
    rintro T51 v51 L51 X51 (⟨hc57, hc58, rfl, N51q, e51⟩ | ⟨hc59, hc60, hc61, rfl, N51q, e51⟩ | ⟨hc62, hc63, hc64, hc65, rfl, N51q, e51⟩ | ⟨hc66, hc67, hc68, hc69, rfl, N51q, e51⟩ | ⟨hc70, rfl, N51q, e51⟩)
    · have N51 := Fr.app N50 N51q
      show Go p e below _ T51 (mkF m 84 #[.val (.int p0), .val (.int p1), .val (.int p2), .val (.int p3), .val (.int (6 : Int32)), .val (.int (0 : Int32)), .val (.int (2 : Int32)), .val (.int c0), .val (.int c1), .val (.int c2), .val (.ref bx9), .unset] [(.ref (ad2 Z a0))])
      refine g_astore X51 K (q := 86) (L' := #[.val (.int p0), .val (.int p1), .val (.int p2), .val (.int p3), .val (.int (6 : Int32)), .val (.int (0 : Int32)), .val (.int (2 : Int32)), .val (.int c0), .val (.int c1), .val (.int c2), .val (.ref bx9), .val (.ref (ad2 Z a0))]) at_84 rfl rfl rfl ?_
      refine g_aload X51 K (q := 88) at_86 rfl rfl rfl ?_
      refine g_static X51 K (q := 91) (W := 0) (w32 H) (w33 H) (w34 H) (w35 H) (by decide) (rm7_59 l H bx9 bx10 c0.toInt8.toInt32 c1.toInt8.toInt32 kB5 T50.heap Ol50 g19 g18 g20 gebx9 g17 ((b8 bd0 (n := 33) rfl (by decide)).mpr hc58) ((b8 bd1 (n := 61) rfl (by decide)).mpr hc57)) e51 rfl (argsL := [(.ref bx9)]) (rest := []) (lenOf pd_8 rfl) rfl rfl (Nat.le_of_eq rfl) at_88 (by decide) (by decide) (by decide) (by decide) rfl ?_
      rintro T52 v52 L52 X52 ⟨rfl, N52q, Kc52⟩
      have N52 := Fr.app N51 N52q
      have Ol52 := Ol50.keep Kc52 all0
      show Go p e below _ T52 (mkF m 91 #[.val (.int p0), .val (.int p1), .val (.int p2), .val (.int p3), .val (.int (6 : Int32)), .val (.int (0 : Int32)), .val (.int (2 : Int32)), .val (.int c0), .val (.int c1), .val (.int c2), .val (.ref bx9), .val (.ref (ad2 Z a0))] [(.ref (ad2 Z a0))])
      refine g_aload X52 K (q := 93) at_91 rfl rfl rfl ?_
      refine g_ac X52 K (q := 96) (same := true) at_93 rfl rfl (decide_eq_true rfl) (by decide) (by decide) ?_
      refine g_iconst X52 K (q := 97) (v := (1 : Int32)) at_96 (by decide) rfl ?_
      refine g_goto X52 K (q := 101) at_97 (by decide) (by decide) ?_
      refine goW ?_
      refine g_nret X52 K (by simp) (z' := (1 : Int32)) (by decide) at_101 (by decide) (by decide) ?_
      exact ⟨rfl, N52⟩
    · have N51 := Fr.app N50 N51q
      show Go p e below _ T51 (mkF m 84 #[.val (.int p0), .val (.int p1), .val (.int p2), .val (.int p3), .val (.int (6 : Int32)), .val (.int (0 : Int32)), .val (.int (2 : Int32)), .val (.int c0), .val (.int c1), .val (.int c2), .val (.ref bx9), .unset] [(.ref (ad4 Z a0))])
      refine g_astore X51 K (q := 86) (L' := #[.val (.int p0), .val (.int p1), .val (.int p2), .val (.int p3), .val (.int (6 : Int32)), .val (.int (0 : Int32)), .val (.int (2 : Int32)), .val (.int c0), .val (.int c1), .val (.int c2), .val (.ref bx9), .val (.ref (ad4 Z a0))]) at_84 rfl rfl rfl ?_
      refine g_aload X51 K (q := 88) at_86 rfl rfl rfl ?_
      refine g_static X51 K (q := 91) (W := 0) (w32 H) (w33 H) (w34 H) (w35 H) (by decide) (rm7_66 l H bx9 bx10 c0.toInt8.toInt32 c1.toInt8.toInt32 kB5 T50.heap Ol50 g19 g18 g20 gebx9 g17 (fun z => hc60 ((b8 bd0 (n := 33) rfl (by decide)).mp z)) ((b8 bd0 (n := 60) rfl (by decide)).mpr hc61) ((b8 bd1 (n := 61) rfl (by decide)).mpr hc59)) e51 rfl (argsL := [(.ref bx9)]) (rest := []) (lenOf pd_8 rfl) rfl rfl (Nat.le_of_eq rfl) at_88 (by decide) (by decide) (by decide) (by decide) rfl ?_
      rintro T53 v53 L53 X53 ⟨rfl, N53q, Kc53⟩
      have N53 := Fr.app N51 N53q
      have Ol53 := Ol50.keep Kc53 all0
      show Go p e below _ T53 (mkF m 91 #[.val (.int p0), .val (.int p1), .val (.int p2), .val (.int p3), .val (.int (6 : Int32)), .val (.int (0 : Int32)), .val (.int (2 : Int32)), .val (.int c0), .val (.int c1), .val (.int c2), .val (.ref bx9), .val (.ref (ad4 Z a0))] [(.ref (ad4 Z a0))])
      refine g_aload X53 K (q := 93) at_91 rfl rfl rfl ?_
      refine g_ac X53 K (q := 96) (same := true) at_93 rfl rfl (decide_eq_true rfl) (by decide) (by decide) ?_
      refine g_iconst X53 K (q := 97) (v := (1 : Int32)) at_96 (by decide) rfl ?_
      refine g_goto X53 K (q := 101) at_97 (by decide) (by decide) ?_
      refine goW ?_
      refine g_nret X53 K (by simp) (z' := (1 : Int32)) (by decide) at_101 (by decide) (by decide) ?_
      exact ⟨rfl, N53⟩
    · have N51 := Fr.app N50 N51q
      show Go p e below _ T51 (mkF m 84 #[.val (.int p0), .val (.int p1), .val (.int p2), .val (.int p3), .val (.int (6 : Int32)), .val (.int (0 : Int32)), .val (.int (2 : Int32)), .val (.int c0), .val (.int c1), .val (.int c2), .val (.ref bx9), .unset] [(.ref (ad6 Z a0))])
      refine g_astore X51 K (q := 86) (L' := #[.val (.int p0), .val (.int p1), .val (.int p2), .val (.int p3), .val (.int (6 : Int32)), .val (.int (0 : Int32)), .val (.int (2 : Int32)), .val (.int c0), .val (.int c1), .val (.int c2), .val (.ref bx9), .val (.ref (ad6 Z a0))]) at_84 rfl rfl rfl ?_
      refine g_aload X51 K (q := 88) at_86 rfl rfl rfl ?_
      refine g_static X51 K (q := 91) (W := 0) (w32 H) (w33 H) (w34 H) (w35 H) (by decide) (rm7_73 l H bx9 bx10 c0.toInt8.toInt32 c1.toInt8.toInt32 kB5 T50.heap Ol50 g19 g18 g20 gebx9 g17 (fun z => hc63 ((b8 bd0 (n := 33) rfl (by decide)).mp z)) (fun z => hc64 ((b8 bd0 (n := 60) rfl (by decide)).mp z)) ((b8 bd0 (n := 62) rfl (by decide)).mpr hc65) ((b8 bd1 (n := 61) rfl (by decide)).mpr hc62)) e51 rfl (argsL := [(.ref bx9)]) (rest := []) (lenOf pd_8 rfl) rfl rfl (Nat.le_of_eq rfl) at_88 (by decide) (by decide) (by decide) (by decide) rfl ?_
      rintro T54 v54 L54 X54 ⟨rfl, N54q, Kc54⟩
      have N54 := Fr.app N51 N54q
      have Ol54 := Ol50.keep Kc54 all0
      show Go p e below _ T54 (mkF m 91 #[.val (.int p0), .val (.int p1), .val (.int p2), .val (.int p3), .val (.int (6 : Int32)), .val (.int (0 : Int32)), .val (.int (2 : Int32)), .val (.int c0), .val (.int c1), .val (.int c2), .val (.ref bx9), .val (.ref (ad6 Z a0))] [(.ref (ad6 Z a0))])
      refine g_aload X54 K (q := 93) at_91 rfl rfl rfl ?_
      refine g_ac X54 K (q := 96) (same := true) at_93 rfl rfl (decide_eq_true rfl) (by decide) (by decide) ?_
      refine g_iconst X54 K (q := 97) (v := (1 : Int32)) at_96 (by decide) rfl ?_
      refine g_goto X54 K (q := 101) at_97 (by decide) (by decide) ?_
      refine goW ?_
      refine g_nret X54 K (by simp) (z' := (1 : Int32)) (by decide) at_101 (by decide) (by decide) ?_
      exact ⟨rfl, N54⟩
    · have N51 := Fr.app N50 N51q
      show Go p e below _ T51 (mkF m 84 #[.val (.int p0), .val (.int p1), .val (.int p2), .val (.int p3), .val (.int (6 : Int32)), .val (.int (0 : Int32)), .val (.int (2 : Int32)), .val (.int c0), .val (.int c1), .val (.int c2), .val (.ref bx9), .unset] [.null])
      refine g_astore X51 K (q := 86) (L' := #[.val (.int p0), .val (.int p1), .val (.int p2), .val (.int p3), .val (.int (6 : Int32)), .val (.int (0 : Int32)), .val (.int (2 : Int32)), .val (.int c0), .val (.int c1), .val (.int c2), .val (.ref bx9), .val .null]) at_84 rfl rfl rfl ?_
      refine g_aload X51 K (q := 88) at_86 rfl rfl rfl ?_
      refine g_static X51 K (q := 91) (W := 0) (w32 H) (w33 H) (w34 H) (w35 H) (by decide) (rm7_76 l H bx9 bx10 c0.toInt8.toInt32 c1.toInt8.toInt32 kB5 T50.heap Ol50 g19 g18 g20 gebx9 g17 (fun z => hc67 ((b8 bd0 (n := 33) rfl (by decide)).mp z)) (fun z => hc68 ((b8 bd0 (n := 60) rfl (by decide)).mp z)) (fun z => hc69 ((b8 bd0 (n := 62) rfl (by decide)).mp z))) e51 rfl (argsL := [(.ref bx9)]) (rest := []) (lenOf pd_8 rfl) rfl rfl (Nat.le_of_eq rfl) at_88 (by decide) (by decide) (by decide) (by decide) rfl ?_
      rintro T55 v55 L55 X55 ⟨rfl, N55q, Kc55⟩
      have N55 := Fr.app N51 N55q
      have Ol55 := Ol50.keep Kc55 all0
      show Go p e below _ T55 (mkF m 91 #[.val (.int p0), .val (.int p1), .val (.int p2), .val (.int p3), .val (.int (6 : Int32)), .val (.int (0 : Int32)), .val (.int (2 : Int32)), .val (.int c0), .val (.int c1), .val (.int c2), .val (.ref bx9), .val .null] [.null])
      refine g_aload X55 K (q := 93) at_91 rfl rfl rfl ?_
      refine g_ac X55 K (q := 96) (same := true) at_93 rfl rfl (decide_eq_true rfl) (by decide) (by decide) ?_
      refine g_iconst X55 K (q := 97) (v := (1 : Int32)) at_96 (by decide) rfl ?_
      refine g_goto X55 K (q := 101) at_97 (by decide) (by decide) ?_
      refine goW ?_
      refine g_nret X55 K (by simp) (z' := (1 : Int32)) (by decide) at_101 (by decide) (by decide) ?_
      exact ⟨rfl, N55⟩
    · have N51 := Fr.app N50 N51q
      show Go p e below _ T51 (mkF m 84 #[.val (.int p0), .val (.int p1), .val (.int p2), .val (.int p3), .val (.int (6 : Int32)), .val (.int (0 : Int32)), .val (.int (2 : Int32)), .val (.int c0), .val (.int c1), .val (.int c2), .val (.ref bx9), .unset] [.null])
      refine g_astore X51 K (q := 86) (L' := #[.val (.int p0), .val (.int p1), .val (.int p2), .val (.int p3), .val (.int (6 : Int32)), .val (.int (0 : Int32)), .val (.int (2 : Int32)), .val (.int c0), .val (.int c1), .val (.int c2), .val (.ref bx9), .val .null]) at_84 rfl rfl rfl ?_
      refine g_aload X51 K (q := 88) at_86 rfl rfl rfl ?_
      refine g_static X51 K (q := 91) (W := 0) (w32 H) (w33 H) (w34 H) (w35 H) (by decide) (rm7_83 l H bx9 bx10 c0.toInt8.toInt32 c1.toInt8.toInt32 kB5 T50.heap Ol50 g19 g18 g20 gebx9 g17 (fun z => hc70 ((b8 bd1 (n := 61) rfl (by decide)).mp z))) e51 rfl (argsL := [(.ref bx9)]) (rest := []) (lenOf pd_8 rfl) rfl rfl (Nat.le_of_eq rfl) at_88 (by decide) (by decide) (by decide) (by decide) rfl ?_
      rintro T56 v56 L56 X56 (⟨hc71, hc72, hc73, rfl, N56q, Kc56⟩ | ⟨hc74, hc75, hc76, rfl, N56q, Kc56⟩ | ⟨hc77, hc78, hc79, rfl, N56q, Kc56⟩ | ⟨hc80, hc81, hc82, rfl, N56q, Kc56⟩ | ⟨hc83, hc84, hc85, rfl, N56q, Kc56⟩ | ⟨hc86, hc87, hc88, rfl, N56q, Kc56⟩ | ⟨hc89, hc90, hc91, rfl, N56q, Kc56⟩ | ⟨hc92, hc93, hc94, rfl, N56q, Kc56⟩)
      · have N56 := Fr.app N51 N56q
        have Ol56 := Ol50.keep Kc56 all0
        show Go p e below _ T56 (mkF m 91 #[.val (.int p0), .val (.int p1), .val (.int p2), .val (.int p3), .val (.int (6 : Int32)), .val (.int (0 : Int32)), .val (.int (2 : Int32)), .val (.int c0), .val (.int c1), .val (.int c2), .val (.ref bx9), .val .null] [.null])
        refine g_aload X56 K (q := 93) at_91 rfl rfl rfl ?_
        refine g_ac X56 K (q := 96) (same := true) at_93 rfl rfl (decide_eq_true rfl) (by decide) (by decide) ?_
        refine g_iconst X56 K (q := 97) (v := (1 : Int32)) at_96 (by decide) rfl ?_
        refine g_goto X56 K (q := 101) at_97 (by decide) (by decide) ?_
        refine goW ?_
        refine g_nret X56 K (by simp) (z' := (1 : Int32)) (by decide) at_101 (by decide) (by decide) ?_
        exact ⟨rfl, N56⟩
      · have N56 := Fr.app N51 N56q
        have Ol56 := Ol50.keep Kc56 all0
        show Go p e below _ T56 (mkF m 91 #[.val (.int p0), .val (.int p1), .val (.int p2), .val (.int p3), .val (.int (6 : Int32)), .val (.int (0 : Int32)), .val (.int (2 : Int32)), .val (.int c0), .val (.int c1), .val (.int c2), .val (.ref bx9), .val .null] [.null])
        refine g_aload X56 K (q := 93) at_91 rfl rfl rfl ?_
        refine g_ac X56 K (q := 96) (same := true) at_93 rfl rfl (decide_eq_true rfl) (by decide) (by decide) ?_
        refine g_iconst X56 K (q := 97) (v := (1 : Int32)) at_96 (by decide) rfl ?_
        refine g_goto X56 K (q := 101) at_97 (by decide) (by decide) ?_
        refine goW ?_
        refine g_nret X56 K (by simp) (z' := (1 : Int32)) (by decide) at_101 (by decide) (by decide) ?_
        exact ⟨rfl, N56⟩
      · have N56 := Fr.app N51 N56q
        have Ol56 := Ol50.keep Kc56 all0
        show Go p e below _ T56 (mkF m 91 #[.val (.int p0), .val (.int p1), .val (.int p2), .val (.int p3), .val (.int (6 : Int32)), .val (.int (0 : Int32)), .val (.int (2 : Int32)), .val (.int c0), .val (.int c1), .val (.int c2), .val (.ref bx9), .val .null] [.null])
        refine g_aload X56 K (q := 93) at_91 rfl rfl rfl ?_
        refine g_ac X56 K (q := 96) (same := true) at_93 rfl rfl (decide_eq_true rfl) (by decide) (by decide) ?_
        refine g_iconst X56 K (q := 97) (v := (1 : Int32)) at_96 (by decide) rfl ?_
        refine g_goto X56 K (q := 101) at_97 (by decide) (by decide) ?_
        refine goW ?_
        refine g_nret X56 K (by simp) (z' := (1 : Int32)) (by decide) at_101 (by decide) (by decide) ?_
        exact ⟨rfl, N56⟩
      · have N56 := Fr.app N51 N56q
        have Ol56 := Ol50.keep Kc56 all0
        show Go p e below _ T56 (mkF m 91 #[.val (.int p0), .val (.int p1), .val (.int p2), .val (.int p3), .val (.int (6 : Int32)), .val (.int (0 : Int32)), .val (.int (2 : Int32)), .val (.int c0), .val (.int c1), .val (.int c2), .val (.ref bx9), .val .null] [.null])
        refine g_aload X56 K (q := 93) at_91 rfl rfl rfl ?_
        refine g_ac X56 K (q := 96) (same := true) at_93 rfl rfl (decide_eq_true rfl) (by decide) (by decide) ?_
        refine g_iconst X56 K (q := 97) (v := (1 : Int32)) at_96 (by decide) rfl ?_
        refine g_goto X56 K (q := 101) at_97 (by decide) (by decide) ?_
        refine goW ?_
        refine g_nret X56 K (by simp) (z' := (1 : Int32)) (by decide) at_101 (by decide) (by decide) ?_
        exact ⟨rfl, N56⟩
      · have N56 := Fr.app N51 N56q
        have Ol56 := Ol50.keep Kc56 all0
        show Go p e below _ T56 (mkF m 91 #[.val (.int p0), .val (.int p1), .val (.int p2), .val (.int p3), .val (.int (6 : Int32)), .val (.int (0 : Int32)), .val (.int (2 : Int32)), .val (.int c0), .val (.int c1), .val (.int c2), .val (.ref bx9), .val .null] [.null])
        refine g_aload X56 K (q := 93) at_91 rfl rfl rfl ?_
        refine g_ac X56 K (q := 96) (same := true) at_93 rfl rfl (decide_eq_true rfl) (by decide) (by decide) ?_
        refine g_iconst X56 K (q := 97) (v := (1 : Int32)) at_96 (by decide) rfl ?_
        refine g_goto X56 K (q := 101) at_97 (by decide) (by decide) ?_
        refine goW ?_
        refine g_nret X56 K (by simp) (z' := (1 : Int32)) (by decide) at_101 (by decide) (by decide) ?_
        exact ⟨rfl, N56⟩
      · have N56 := Fr.app N51 N56q
        have Ol56 := Ol50.keep Kc56 all0
        show Go p e below _ T56 (mkF m 91 #[.val (.int p0), .val (.int p1), .val (.int p2), .val (.int p3), .val (.int (6 : Int32)), .val (.int (0 : Int32)), .val (.int (2 : Int32)), .val (.int c0), .val (.int c1), .val (.int c2), .val (.ref bx9), .val .null] [.null])
        refine g_aload X56 K (q := 93) at_91 rfl rfl rfl ?_
        refine g_ac X56 K (q := 96) (same := true) at_93 rfl rfl (decide_eq_true rfl) (by decide) (by decide) ?_
        refine g_iconst X56 K (q := 97) (v := (1 : Int32)) at_96 (by decide) rfl ?_
        refine g_goto X56 K (q := 101) at_97 (by decide) (by decide) ?_
        refine goW ?_
        refine g_nret X56 K (by simp) (z' := (1 : Int32)) (by decide) at_101 (by decide) (by decide) ?_
        exact ⟨rfl, N56⟩
      · have N56 := Fr.app N51 N56q
        have Ol56 := Ol50.keep Kc56 all0
        show Go p e below _ T56 (mkF m 91 #[.val (.int p0), .val (.int p1), .val (.int p2), .val (.int p3), .val (.int (6 : Int32)), .val (.int (0 : Int32)), .val (.int (2 : Int32)), .val (.int c0), .val (.int c1), .val (.int c2), .val (.ref bx9), .val .null] [.null])
        refine g_aload X56 K (q := 93) at_91 rfl rfl rfl ?_
        refine g_ac X56 K (q := 96) (same := true) at_93 rfl rfl (decide_eq_true rfl) (by decide) (by decide) ?_
        refine g_iconst X56 K (q := 97) (v := (1 : Int32)) at_96 (by decide) rfl ?_
        refine g_goto X56 K (q := 101) at_97 (by decide) (by decide) ?_
        refine goW ?_
        refine g_nret X56 K (by simp) (z' := (1 : Int32)) (by decide) at_101 (by decide) (by decide) ?_
        exact ⟨rfl, N56⟩
      · have N56 := Fr.app N51 N56q
        have Ol56 := Ol50.keep Kc56 all0
        show Go p e below _ T56 (mkF m 91 #[.val (.int p0), .val (.int p1), .val (.int p2), .val (.int p3), .val (.int (6 : Int32)), .val (.int (0 : Int32)), .val (.int (2 : Int32)), .val (.int c0), .val (.int c1), .val (.int c2), .val (.ref bx9), .val .null] [.null])
        refine g_aload X56 K (q := 93) at_91 rfl rfl rfl ?_
        refine g_ac X56 K (q := 96) (same := true) at_93 rfl rfl (decide_eq_true rfl) (by decide) (by decide) ?_
        refine g_iconst X56 K (q := 97) (v := (1 : Int32)) at_96 (by decide) rfl ?_
        refine g_goto X56 K (q := 101) at_97 (by decide) (by decide) ?_
        refine goW ?_
        refine g_nret X56 K (by simp) (z' := (1 : Int32)) (by decide) at_101 (by decide) (by decide) ?_
        exact ⟨rfl, N56⟩
  · refine g_iand X0 K (q := 4) (z := (7 : Int32)) at_3 hs1 rfl ?_
    refine g_istore X0 K (q := 6) (L' := #[.val (.int p0), .val (.int p1), .val (.int p2), .val (.int p3), .val (.int (7 : Int32)), .unset, .unset, .unset, .unset, .unset, .unset, .unset]) at_4 rfl rfl ?_
    refine g_iload X0 K (q := 8) at_6 rfl rfl ?_
    refine g_bipush X0 K (q := 10) (v := (7 : Int32)) at_8 (by decide) rfl ?_
    refine g_icN X0 K (q := 13) at_10 (by decide) rfl ?_
    refine g_iconst X0 K (q := 14) (v := (1 : Int32)) at_13 (by decide) rfl ?_
    refine g_goto X0 K (q := 18) at_14 (by decide) (by decide) ?_
    refine g_istore X0 K (q := 20) (L' := #[.val (.int p0), .val (.int p1), .val (.int p2), .val (.int p3), .val (.int (7 : Int32)), .val (.int (1 : Int32)), .unset, .unset, .unset, .unset, .unset, .unset]) at_18 rfl rfl ?_
    refine g_iload X0 K (q := 22) at_20 rfl rfl ?_
    refine g_iconst X0 K (q := 23) (v := (4 : Int32)) at_22 (by decide) rfl ?_
    refine g_irem X0 K (q := 24) at_23 (by decide) (z := (3 : Int32)) (by decide) rfl ?_
    refine g_istore X0 K (q := 26) (L' := #[.val (.int p0), .val (.int p1), .val (.int p2), .val (.int p3), .val (.int (7 : Int32)), .val (.int (1 : Int32)), .val (.int (3 : Int32)), .unset, .unset, .unset, .unset, .unset]) at_24 rfl rfl ?_
    refine g_iloadN X0 K (q := 27) at_26 rfl rfl ?_
    refine g_static X0 K (q := 30) (W := 0) (w0 H) (w1 H) (w2 H) (w3 H) (by decide) (rm1_4 l H p1 h0 Ol0) e0 rfl (argsL := [(.int p1)]) (rest := []) (lenOf pd_2 rfl) rfl rfl (Nat.le_of_eq rfl) at_27 (by decide) (by decide) (by decide) (by decide) rfl ?_
    rintro T57 v57 L57 X57 ⟨rfl, N57q, e57⟩
    have N57 := Fr.app (Fr.nil _) N57q
    show Go p e below _ T57 (mkF m 30 #[.val (.int p0), .val (.int p1), .val (.int p2), .val (.int p3), .val (.int (7 : Int32)), .val (.int (1 : Int32)), .val (.int (3 : Int32)), .unset, .unset, .unset, .unset, .unset] [(.int (chF p1))])
    have bd0 := chF_bd p1
    have nr0 := chF_nar p1
    obtain ⟨c0, hc0⟩ : ∃ z, chF p1 = z := ⟨_, rfl⟩
    rw [hc0] at bd0 nr0 ⊢
    have gt0 : ¬ ((255 : Int32) < c0) := own_ngtI (m := 255) rfl (by omega)
    refine g_istore X57 K (q := 32) (L' := #[.val (.int p0), .val (.int p1), .val (.int p2), .val (.int p3), .val (.int (7 : Int32)), .val (.int (1 : Int32)), .val (.int (3 : Int32)), .val (.int c0), .unset, .unset, .unset, .unset]) at_30 rfl rfl ?_
    refine g_iloadN X57 K (q := 33) at_32 rfl rfl ?_
    refine g_static X57 K (q := 36) (W := 0) (w0 H) (w1 H) (w2 H) (w3 H) (by decide) (rm1_4 l H p2 h0 Ol0) e57 rfl (argsL := [(.int p2)]) (rest := []) (lenOf pd_2 rfl) rfl rfl (Nat.le_of_eq rfl) at_33 (by decide) (by decide) (by decide) (by decide) rfl ?_
    rintro T58 v58 L58 X58 ⟨rfl, N58q, e58⟩
    have N58 := Fr.app N57 N58q
    show Go p e below _ T58 (mkF m 36 #[.val (.int p0), .val (.int p1), .val (.int p2), .val (.int p3), .val (.int (7 : Int32)), .val (.int (1 : Int32)), .val (.int (3 : Int32)), .val (.int c0), .unset, .unset, .unset, .unset] [(.int (chF p2))])
    have bd1 := chF_bd p2
    have nr1 := chF_nar p2
    obtain ⟨c1, hc1⟩ : ∃ z, chF p2 = z := ⟨_, rfl⟩
    rw [hc1] at bd1 nr1 ⊢
    have gt1 : ¬ ((255 : Int32) < c1) := own_ngtI (m := 255) rfl (by omega)
    refine g_istore X58 K (q := 38) (L' := #[.val (.int p0), .val (.int p1), .val (.int p2), .val (.int p3), .val (.int (7 : Int32)), .val (.int (1 : Int32)), .val (.int (3 : Int32)), .val (.int c0), .val (.int c1), .unset, .unset, .unset]) at_36 rfl rfl ?_
    refine g_iloadN X58 K (q := 39) at_38 rfl rfl ?_
    refine g_static X58 K (q := 42) (W := 0) (w0 H) (w1 H) (w2 H) (w3 H) (by decide) (rm1_4 l H p3 h0 Ol0) e58 rfl (argsL := [(.int p3)]) (rest := []) (lenOf pd_2 rfl) rfl rfl (Nat.le_of_eq rfl) at_39 (by decide) (by decide) (by decide) (by decide) rfl ?_
    rintro T59 v59 L59 X59 ⟨rfl, N59q, e59⟩
    have N59 := Fr.app N58 N59q
    show Go p e below _ T59 (mkF m 42 #[.val (.int p0), .val (.int p1), .val (.int p2), .val (.int p3), .val (.int (7 : Int32)), .val (.int (1 : Int32)), .val (.int (3 : Int32)), .val (.int c0), .val (.int c1), .unset, .unset, .unset] [(.int (chF p3))])
    have bd2 := chF_bd p3
    have nr2 := chF_nar p3
    obtain ⟨c2, hc2⟩ : ∃ z, chF p3 = z := ⟨_, rfl⟩
    rw [hc2] at bd2 nr2 ⊢
    have gt2 : ¬ ((255 : Int32) < c2) := own_ngtI (m := 255) rfl (by omega)
    refine g_istore X59 K (q := 44) (L' := #[.val (.int p0), .val (.int p1), .val (.int p2), .val (.int p3), .val (.int (7 : Int32)), .val (.int (1 : Int32)), .val (.int (3 : Int32)), .val (.int c0), .val (.int c1), .val (.int c2), .unset, .unset]) at_42 rfl rfl ?_
    refine g_iload X59 K (q := 46) at_44 rfl rfl ?_
    refine g_ifN X59 K (q := 49) at_46 (by decide) rfl ?_
    refine g_null X59 K (q := 50) at_49 rfl ?_
    refine g_goto X59 K (q := 64) at_50 (by decide) (by decide) ?_
    refine g_astore X59 K (q := 66) (L' := #[.val (.int p0), .val (.int p1), .val (.int p2), .val (.int p3), .val (.int (7 : Int32)), .val (.int (1 : Int32)), .val (.int (3 : Int32)), .val (.int c0), .val (.int c1), .val (.int c2), .val .null, .unset]) at_64 rfl rfl rfl ?_
    refine g_iload X59 K (q := 68) at_66 rfl rfl ?_
    refine g_ifN X59 K (q := 71) at_68 (by decide) rfl ?_
    refine g_null X59 K (q := 72) at_71 rfl ?_
    refine g_goto X59 K (q := 84) at_72 (by decide) (by decide) ?_
    refine g_astore X59 K (q := 86) (L' := #[.val (.int p0), .val (.int p1), .val (.int p2), .val (.int p3), .val (.int (7 : Int32)), .val (.int (1 : Int32)), .val (.int (3 : Int32)), .val (.int c0), .val (.int c1), .val (.int c2), .val .null, .val .null]) at_84 rfl rfl rfl ?_
    refine g_aload X59 K (q := 88) at_86 rfl rfl rfl ?_
    refine g_static X59 K (q := 91) (W := 0) (w32 H) (w33 H) (w34 H) (w35 H) (by decide) (rm7_110 l H h0 Ol0) e59 rfl (argsL := [.null]) (rest := []) (lenOf pd_8 rfl) rfl rfl (Nat.le_of_eq rfl) at_88 (by decide) (by decide) (by decide) (by decide) rfl ?_
    rintro T60 v60 L60 X60 ⟨rfl, N60q, Kc60⟩
    have N60 := Fr.app N59 N60q
    have Ol60 := Ol0.keep Kc60 all0
    show Go p e below _ T60 (mkF m 91 #[.val (.int p0), .val (.int p1), .val (.int p2), .val (.int p3), .val (.int (7 : Int32)), .val (.int (1 : Int32)), .val (.int (3 : Int32)), .val (.int c0), .val (.int c1), .val (.int c2), .val .null, .val .null] [.null])
    refine g_aload X60 K (q := 93) at_91 rfl rfl rfl ?_
    refine g_ac X60 K (q := 96) (same := true) at_93 rfl rfl (decide_eq_true rfl) (by decide) (by decide) ?_
    refine g_iconst X60 K (q := 97) (v := (1 : Int32)) at_96 (by decide) rfl ?_
    refine g_goto X60 K (q := 101) at_97 (by decide) (by decide) ?_
    refine goW ?_
    refine g_nret X60 K (by simp) (z' := (1 : Int32)) (by decide) at_101 (by decide) (by decide) ?_
    exact ⟨rfl, N60⟩
set_option maxRecDepth 65536 in
set_option maxHeartbeats 40000000 in
theorem comes_1 {Post : Tables → Env → Array Value → State → Outcome → State → Prop} (hpost : ∀ tb e args s v u, (limb_1_1.after args s (.returned v) u = true ∧ limb_1_2.after args s (.returned v) u = true ∧ True) → ReturnedEndW s (.returned v) u (Jvm.fieldLocs frame_1_writes args s ++ Jvm.arrayLocs frame_1_arrays args s ++ Jvm.staticLocs frame_1_statics s) 24 1152 → Post tb e args s (.returned v) u) :
    ArmFor flags0 classFile x code maxLocals ret World_1 tables_1 room_1 Calls_1 rest_1 Pre_1 Post := by
  intro l hfl _ _ p e ha hc hk s m args below hf hA hF happ hP
  obtain ⟨hcalls, hrest, hpre⟩ := hP
  obtain ⟨hsets, -⟩ := atoms_of _ (rest_1_c_eq ▸ (show rest_1_c.before _ s = true from hrest))
  obtain ⟨-, -, -, hnamed, -, -, -, hat⟩ := (Spec.applies_iff hf).mp happ
  obtain ⟨hg, hn⟩ := and_e (Cond.before_iff.mp (show (Jvm.Cond.and given_1 narrow_1).before args s = true from hpre))
  obtain ⟨g0, hg0⟩ := and_e hg
  obtain ⟨g1, hg1⟩ := and_e hg0
  obtain ⟨g2, hg2⟩ := and_e hg1
  obtain ⟨g3, hg3⟩ := and_e hg2
  have g4 := hg3
  obtain ⟨u0, u1, u2, u3, rfl⟩ : ∃ u0 u1 u2 u3 : Value, args = #[u0, u1, u2, u3] := by
    have hs : args.size = 4 := by simpa [Cond.value, given_1] using g0
    obtain ⟨L⟩ := args
    match L, hs with
    | [u0, u1, u2, u3], _ => exact ⟨u0, u1, u2, u3, rfl⟩
  have hw := fun d (hd : d ∈ tables_1) => atoms_spec (ws := Jvm.Cond.code x code maxLocals ret :: tables_1) hat d (List.mem_cons_of_mem _ hd)
  have hfit : Fit s := fun {y c} hc i hi => by
    obtain ⟨ha, rfl⟩ := Array.getElem?_eq_some_iff.mp hc
    have q := List.all_eq_true.mp ((Array.all_eq_true_iff_forall_mem.mp hF) _ (Array.getElem_mem ha)) i (List.mem_range.mpr hi)
    simpa [Array.getElem?_eq_getElem hi] using q
  obtain ⟨i0, ei0⟩ := is_v g1
  obtain rfl : u0 = (.int i0) := Option.some.inj ei0
  obtain ⟨i1, ei1⟩ := is_v g2
  obtain rfl : u1 = (.int i1) := Option.some.inj ei1
  obtain ⟨i2, ei2⟩ := is_v g3
  obtain rfl : u2 = (.int i2) := Option.some.inj ei2
  obtain ⟨i3, ei3⟩ := is_v g4
  obtain rfl : u3 = (.int i3) := Option.some.inj ei3
  obtain ⟨n, o, h1, h2, h3, _, L, rfl, ⟨rfl, N⟩, hq⟩ := rm0 l (Z := s) ⟨hw, hn, hfit, hsets, hcalls.1 _ (List.mem_cons_self ..)⟩ i0 i1 i2 i3 s.heap (Old.start s) p e ha hc hk s m _ below hf ((Spec.applies_iff_loose hf).mp happ).1 ⟨rfl, State.Warmed39.refl s, rfl, IB.start⟩ trivial
  refine ⟨n, _, h1, h2, h3, hpost _ _ _ _ _ _ ⟨Cond.after_iff.mpr rfl, Cond.after_iff.mpr (eq_i res_at (Term.int_eval (1)) rfl), trivial⟩ ⟨hq.1, hq.2.1, hq.2.2.1, (hq.2.2.2.sift fun y hy => Or.inr (N y hy)).mono (by decide) (by decide)⟩⟩
theorem main_1_1 : Claimed_1_1 := comes_1 fun _ _ _ _ _ _ h hF => ⟨h.1, hF⟩
theorem main_1_2 : Claimed_1_2 := comes_1 fun _ _ _ _ _ _ h hF => ⟨h.2.1, hF⟩
end Jvm.Pilot.@@N@@
namespace Jvm.Pilot.@@N@@
open Jvm Jvm.ClassFile Sem Op Lib Jvm.Free Jvm.Stand Jvm.Pilot.@@N@@.Jvm.D
/-! MADE BY PROGRAM (witnessworld.py) out of the Statement's table words and the real class files: 22 classes; the members and pool entries that the words name. The judged class is class 1, her method 1. -/
namespace start1
open Jvm.ClassFile
def u (s : String) : CpInfo := .utf8 (stringToUtf16 s)
/-- a pool by its gaps: so many unusable entries, then the entry; so many at the end -/
def gap : Nat → List CpInfo → List CpInfo
  | 0, r => r
  | n + 1, r => .unusable :: gap n r
def poolList (es : List (Nat × CpInfo)) (last : Nat) : List CpInfo := es.foldr (fun e r => gap e.1 (e.2 :: r)) (gap last [])
def pool (es : List (Nat × CpInfo)) (last : Nat) : Array CpInfo := ⟨poolList es last⟩
def fileOf (pool : Array CpInfo) (this : Nat) (attrs : Array Attribute := #[]) (ms : Array MethodInfo := #[]) (fl : Nat := 33) (sup : Nat := 0) (ifs : Array Nat := #[]) (fds : Array FieldInfo := #[]) : ClassFile where
  minorVersion := 0
  majorVersion := 65
  constantPool := pool
  accessFlags := fl
  thisClass := this
  superClass := sup
  interfaces := ifs
  fields := fds
  methods := ms
  attributes := attrs
def plain (name : String) (sup : Option ClassId) : Class where
  name := name
  kind := .ordinary
  loader := none
  accessFlags := 33
  super := sup
  interfaces := #[]
  cf := none
  fields := #[]
  methods := #[]
  instanceTypes := #[]
  staticTypes := #[]
  resolved := #[]
  callSites := []
  init := .initialized
  statics := none
  mirror := none

def pool0 : Array CpInfo := pool [(5, u "<init>"), (0, u "()V"), (1, .class_ 10), (1, u "java/lang/Object"), (85, u "clone"), (0, u "()Ljava/lang/Object;")] 26

def k0c0 : Code := { maxStack := 0, maxLocals := 1, code := object_method_1_code, exceptionTable := #[], attributes := #[] }
def k0m0 : Method := { name := "<init>", desc := "()V", sig := { parameters := [], returnType := none }, accessFlags := 1, code := some k0c0 }
def k0m1 : Method := { name := "clone", desc := "()Ljava/lang/Object;", sig := { parameters := [], returnType := some (.object "java/lang/Object") }, accessFlags := 260, code := none }
/-- java/lang/Object -/
def k0 : Class := { plain "java/lang/Object" none with
  accessFlags := 33
  interfaces := #[]
  cf := some (fileOf pool0 8 #[] #[{ accessFlags := 1, nameIndex := 5, descriptorIndex := 6, attributes := #[] }, { accessFlags := 260, nameIndex := 96, descriptorIndex := 97, attributes := #[] }] 33 0 #[] #[])
  fields := #[]
  methods := #[k0m0, k0m1]
  instanceTypes := #[]
  staticTypes := #[]
  resolved := Array.replicate 124 none
  statics := none }

def pool1 : Array CpInfo := pool [(2, .class_ 4), (1, u "java/lang/Object"), (0, u "<init>"), (0, u "()V"), (0, .methodref 8 9), (0, .class_ 10), (0, .nameAndType 11 12), (0, u "com/example/annotable/annotable/ComparisonOfPinLaw"), (0, u "ch"), (0, u "(I)C"), (0, .methodref 8 14), (0, .nameAndType 15 16), (0, u "make"), (0, u "(ICCC)Ljava/lang/String;"), (0, .methodref 8 18), (0, .nameAndType 19 20), (0, u "expected"), (0, u "(ICC)Lcom/example/annotable/annotable/PathQuery$Comparison;"), (0, .methodref 22 23), (0, .class_ 24), (0, .nameAndType 25 26), (0, u "com/example/annotable/annotable/PathQuery$Comparison"), (0, u "of"), (0, u "(Ljava/lang/String;)Lcom/example/annotable/annotable/PathQuery$Comparison;"), (0, .class_ 28), (0, u "java/lang/String"), (0, .methodref 27 30), (0, .nameAndType 5 31), (0, u "([C)V"), (0, .methodref 27 33), (0, .nameAndType 34 35), (0, u "valueOf"), (0, u "(C)Ljava/lang/String;"), (0, .fieldref 22 37), (0, .nameAndType 38 39), (0, u "EQUAL"), (0, u "Lcom/example/annotable/annotable/PathQuery$Comparison;"), (0, .fieldref 22 41), (0, .nameAndType 42 39), (0, u "LESS"), (0, .fieldref 22 44), (0, .nameAndType 45 39), (0, u "GREATER"), (0, .fieldref 22 47), (0, .nameAndType 48 39), (0, u "NOT_EQUAL"), (0, .fieldref 22 50), (0, .nameAndType 51 39), (0, u "LESS_OR_EQUAL"), (0, .fieldref 22 53), (0, .nameAndType 54 39), (0, u "GREATER_OR_EQUAL"), (2, u "law"), (0, u "(IIII)Z")] 7

def k1m0 : Method := { name := "<init>", desc := "()V", sig := { parameters := [], returnType := none }, accessFlags := 2, code := none }
def k1c1 : Code := { maxStack := 4, maxLocals := 12, code := code, exceptionTable := #[], attributes := #[] }
def k1m1 : Method := { name := "law", desc := "(IIII)Z", sig := { parameters := [.int, .int, .int, .int], returnType := some .boolean }, accessFlags := 9, code := some k1c1 }
def k1c2 : Code := { maxStack := 2, maxLocals := 2, code := method_3_code, exceptionTable := #[], attributes := #[] }
def k1m2 : Method := { name := "ch", desc := "(I)C", sig := { parameters := [.int], returnType := some .char }, accessFlags := 10, code := some k1c2 }
def k1c3 : Code := { maxStack := 6, maxLocals := 4, code := method_4_code, exceptionTable := #[], attributes := #[] }
def k1m3 : Method := { name := "make", desc := "(ICCC)Ljava/lang/String;", sig := { parameters := [.int, .char, .char, .char], returnType := some (.object "java/lang/String") }, accessFlags := 10, code := some k1c3 }
def k1c4 : Code := { maxStack := 2, maxLocals := 3, code := method_5_code, exceptionTable := #[], attributes := #[] }
def k1m4 : Method := { name := "expected", desc := "(ICC)Lcom/example/annotable/annotable/PathQuery$Comparison;", sig := { parameters := [.int, .char, .char], returnType := some (.object "com/example/annotable/annotable/PathQuery$Comparison") }, accessFlags := 10, code := some k1c4 }
/-- com/example/annotable/annotable/ComparisonOfPinLaw -/
def k1 : Class := { plain "com/example/annotable/annotable/ComparisonOfPinLaw" (some 0) with
  accessFlags := 49
  interfaces := #[]
  cf := some (fileOf pool1 8 #[] #[{ accessFlags := 2, nameIndex := 5, descriptorIndex := 6, attributes := #[] }, { accessFlags := 9, nameIndex := 57, descriptorIndex := 58, attributes := #[] }, { accessFlags := 10, nameIndex := 11, descriptorIndex := 12, attributes := #[] }, { accessFlags := 10, nameIndex := 15, descriptorIndex := 16, attributes := #[] }, { accessFlags := 10, nameIndex := 19, descriptorIndex := 20, attributes := #[] }] 49 2 #[] #[])
  fields := #[]
  methods := #[k1m0, k1m1, k1m2, k1m3, k1m4]
  instanceTypes := #[]
  staticTypes := #[]
  resolved := Array.replicate 66 none
  statics := none }

def pool2 : Array CpInfo := pool [(1, .class_ 2), (0, u "java/io/Serializable"), (0, .class_ 4), (0, u "java/lang/Object")] 2

/-- java/io/Serializable -/
def k2 : Class := { plain "java/io/Serializable" (some 0) with
  accessFlags := 1537
  interfaces := #[]
  cf := some (fileOf pool2 1 #[] #[] 1537 3 #[] #[])
  fields := #[]
  methods := #[]
  instanceTypes := #[]
  staticTypes := #[]
  resolved := Array.replicate 7 none
  statics := none }

def pool3 : Array CpInfo := pool [(1, .class_ 2), (0, u "java/lang/Comparable"), (0, .class_ 4), (0, u "java/lang/Object")] 7

/-- java/lang/Comparable -/
def k3 : Class := { plain "java/lang/Comparable" (some 0) with
  accessFlags := 1537
  interfaces := #[]
  cf := some (fileOf pool3 1 #[] #[] 1537 3 #[] #[])
  fields := #[]
  methods := #[]
  instanceTypes := #[]
  staticTypes := #[]
  resolved := Array.replicate 12 none
  statics := none }

def pool4 : Array CpInfo := pool [(2, .class_ 4), (1, u "java/lang/CharSequence"), (42, .class_ 48), (0, u "java/lang/CharSequence$1CodePointIterator"), (10, .class_ 60), (0, u "java/lang/CharSequence$1CharIterator"), (5, .class_ 67), (0, u "java/lang/Object")] 63

/-- java/lang/CharSequence -/
def k4 : Class := { plain "java/lang/CharSequence" (some 0) with
  accessFlags := 1537
  interfaces := #[]
  cf := some (fileOf pool4 2 #[.nestMembers #[47, 59]] #[] 1537 66 #[] #[])
  fields := #[]
  methods := #[]
  instanceTypes := #[]
  staticTypes := #[]
  resolved := Array.replicate 131 none
  statics := none }

def pool5 : Array CpInfo := pool [(1, .class_ 2), (0, u "java/lang/constant/Constable"), (0, .class_ 4), (0, u "java/lang/Object")] 6

/-- java/lang/constant/Constable -/
def k5 : Class := { plain "java/lang/constant/Constable" (some 0) with
  accessFlags := 1537
  interfaces := #[]
  cf := some (fileOf pool5 1 #[] #[] 1537 3 #[] #[])
  fields := #[]
  methods := #[]
  instanceTypes := #[]
  staticTypes := #[]
  resolved := Array.replicate 11 none
  statics := none }

def pool6 : Array CpInfo := pool [(1, .class_ 2), (0, u "java/lang/constant/ConstantDesc"), (0, .class_ 4), (0, u "java/lang/Object")] 32

/-- java/lang/constant/ConstantDesc -/
def k6 : Class := { plain "java/lang/constant/ConstantDesc" (some 0) with
  accessFlags := 1537
  interfaces := #[]
  cf := some (fileOf pool6 1 #[] #[] 1537 3 #[] #[])
  fields := #[]
  methods := #[]
  instanceTypes := #[]
  staticTypes := #[]
  resolved := Array.replicate 37 none
  statics := none }

def pool7 : Array CpInfo := pool [(1, .methodref 2 3), (0, .class_ 4), (0, .nameAndType 5 6), (0, u "java/lang/Object"), (0, u "<init>"), (0, u "()V"), (0, .string 8), (0, u ""), (0, .fieldref 10 11), (0, .class_ 12), (0, .nameAndType 13 14), (0, u "java/lang/String"), (0, u "value"), (0, u "[B"), (0, .fieldref 10 16), (0, .nameAndType 17 18), (0, u "coder"), (0, u "B"), (2, u "hash"), (0, u "I"), (2, u "hashIsZero"), (0, u "Z"), (0, .methodref 10 28), (0, .nameAndType 5 29), (0, u "([CIILjava/lang/Void;)V"), (8, .fieldref 10 39), (0, .nameAndType 40 26), (0, u "COMPACT_STRINGS"), (1, .class_ 44), (1, u "java/lang/StringUTF16"), (0, u "compress"), (1, .methodref 42 48), (0, .nameAndType 49 50), (0, u "coderFromArrayLen"), (0, u "([BI)B"), (2, u "toBytes"), (53, .class_ 109), (1, u "java/lang/StringLatin1"), (67, .methodref 42 178), (0, .nameAndType 45 179), (0, u "([CII)[B"), (29, .methodref 10 210), (0, .nameAndType 5 211), (0, u "([BB)V"), (157, u "(C)Z"), (171, .methodref 107 542), (0, .nameAndType 543 544), (0, u "equals"), (0, u "([B[B)Z"), (28, u "(Ljava/lang/Object;)Z"), (1, .class_ 576), (0, u "java/lang/CharSequence"), (22, u "CASE_INSENSITIVE_ORDER"), (0, u "Ljava/util/Comparator;"), (181, u "valueOf"), (0, u "(C)Ljava/lang/String;"), (226, u "([C)V"), (4, .methodref 107 1016), (0, .nameAndType 1017 369), (0, u "canEncode"), (0, .methodref 107 1019), (0, .nameAndType 53 1020), (0, u "(C)[B"), (80, u "serialPersistentFields"), (0, u "[Ljava/io/ObjectStreamField;"), (0, .class_ 1104), (0, u "java/lang/String$CaseInsensitiveComparator"), (1, .class_ 1107), (0, u "java/io/Serializable"), (0, .class_ 1109), (0, u "java/lang/Comparable"), (0, .class_ 1111), (0, u "java/lang/constant/Constable"), (0, .class_ 1113), (0, u "java/lang/constant/ConstantDesc"), (2, u "serialVersionUID"), (0, u "J"), (3, u "REPL"), (0, u "C"), (2, u "LATIN1"), (1, u "UTF16")] 323

def k7m0 : Method := { name := "<init>", desc := "()V", sig := { parameters := [], returnType := none }, accessFlags := 1, code := none }
def k7c1 : Code := { maxStack := 5, maxLocals := 2, code := jdk_42_method_3_code, exceptionTable := #[], attributes := #[] }
def k7m1 : Method := { name := "<init>", desc := "([C)V", sig := { parameters := [(.array .char)], returnType := none }, accessFlags := 1, code := some k7c1 }
def k7c2 : Code := { maxStack := 2, maxLocals := 3, code := jdk_42_method_66_code, exceptionTable := #[], attributes := #[] }
def k7m2 : Method := { name := "equals", desc := "(Ljava/lang/Object;)Z", sig := { parameters := [(.object "java/lang/Object")], returnType := some .boolean }, accessFlags := 1, code := some k7c2 }
def k7c3 : Code := { maxStack := 4, maxLocals := 1, code := jdk_42_method_139_code, exceptionTable := #[], attributes := #[] }
def k7m3 : Method := { name := "valueOf", desc := "(C)Ljava/lang/String;", sig := { parameters := [.char], returnType := some (.object "java/lang/String") }, accessFlags := 9, code := some k7c3 }
def k7c4 : Code := { maxStack := 4, maxLocals := 6, code := jdk_42_method_149_code, exceptionTable := #[], attributes := #[] }
def k7m4 : Method := { name := "<init>", desc := "([CIILjava/lang/Void;)V", sig := { parameters := [(.array .char), .int, .int, (.object "java/lang/Void")], returnType := none }, accessFlags := 2, code := some k7c4 }
def k7c5 : Code := { maxStack := 2, maxLocals := 3, code := jdk_42_method_151_code, exceptionTable := #[], attributes := #[] }
def k7m5 : Method := { name := "<init>", desc := "([BB)V", sig := { parameters := [(.array .byte), .byte], returnType := none }, accessFlags := 0, code := some k7c5 }
/-- java/lang/String -/
def k7 : Class := { plain "java/lang/String" (some 0) with
  accessFlags := 49
  interfaces := #[2, 3, 4, 5, 6]
  cf := some (fileOf pool7 10 #[.nestMembers #[1103]] #[{ accessFlags := 1, nameIndex := 5, descriptorIndex := 6, attributes := #[] }, { accessFlags := 1, nameIndex := 5, descriptorIndex := 1010, attributes := #[] }, { accessFlags := 1, nameIndex := 543, descriptorIndex := 573, attributes := #[] }, { accessFlags := 9, nameIndex := 782, descriptorIndex := 783, attributes := #[] }, { accessFlags := 2, nameIndex := 5, descriptorIndex := 29, attributes := #[] }, { accessFlags := 0, nameIndex := 5, descriptorIndex := 211, attributes := #[] }] 49 2 #[1106, 1108, 575, 1110, 1112] #[{ accessFlags := 18, nameIndex := 13, descriptorIndex := 14, attributes := #[] }, { accessFlags := 18, nameIndex := 17, descriptorIndex := 18, attributes := #[] }, { accessFlags := 2, nameIndex := 21, descriptorIndex := 22, attributes := #[] }, { accessFlags := 2, nameIndex := 25, descriptorIndex := 26, attributes := #[] }, { accessFlags := 26, nameIndex := 1116, descriptorIndex := 1117, attributes := #[] }, { accessFlags := 24, nameIndex := 40, descriptorIndex := 26, attributes := #[] }, { accessFlags := 26, nameIndex := 1101, descriptorIndex := 1102, attributes := #[] }, { accessFlags := 26, nameIndex := 1121, descriptorIndex := 1122, attributes := #[] }, { accessFlags := 25, nameIndex := 599, descriptorIndex := 600, attributes := #[] }, { accessFlags := 24, nameIndex := 1125, descriptorIndex := 18, attributes := #[] }, { accessFlags := 24, nameIndex := 1127, descriptorIndex := 18, attributes := #[] }])
  fields := #[{ name := "value", type := (.array .byte), accessFlags := 18, slot := 0, constantValue := 0 }, { name := "coder", type := .byte, accessFlags := 18, slot := 1, constantValue := 0 }, { name := "hash", type := .int, accessFlags := 2, slot := 2, constantValue := 0 }, { name := "hashIsZero", type := .boolean, accessFlags := 2, slot := 3, constantValue := 0 }, { name := "serialVersionUID", type := .long, accessFlags := 26, slot := 0, constantValue := 0 }, { name := "COMPACT_STRINGS", type := .boolean, accessFlags := 24, slot := 1, constantValue := 0 }, { name := "serialPersistentFields", type := (.array (.object "java/io/ObjectStreamField")), accessFlags := 26, slot := 2, constantValue := 0 }, { name := "REPL", type := .char, accessFlags := 26, slot := 3, constantValue := 0 }, { name := "CASE_INSENSITIVE_ORDER", type := (.object "java/util/Comparator"), accessFlags := 25, slot := 4, constantValue := 0 }, { name := "LATIN1", type := .byte, accessFlags := 24, slot := 5, constantValue := 0 }, { name := "UTF16", type := .byte, accessFlags := 24, slot := 6, constantValue := 0 }]
  methods := #[k7m0, k7m1, k7m2, k7m3, k7m4, k7m5]
  instanceTypes := #[(.array .byte), .byte, .int, .boolean]
  staticTypes := #[.long, .boolean, (.array (.object "java/io/ObjectStreamField")), .char, (.object "java/util/Comparator"), .byte, .byte]
  resolved := Array.replicate 1451 none
  statics := some 0 }

def pool8 : Array CpInfo := pool [(2, .class_ 4), (1, u "java/lang/Enum"), (0, u "name"), (0, u "Ljava/lang/String;"), (2, u "ordinal"), (0, u "I"), (1, .class_ 14), (1, u "java/lang/Object"), (4, u "hash"), (86, .class_ 108), (1, u "java/lang/Enum$EnumDesc"), (2, .class_ 112), (0, u "java/lang/constant/Constable"), (0, .class_ 114), (0, u "java/lang/Comparable"), (0, .class_ 116), (0, u "java/io/Serializable")] 87

/-- java/lang/Enum -/
def k8 : Class := { plain "java/lang/Enum" (some 0) with
  accessFlags := 1057
  interfaces := #[5, 3, 2]
  cf := some (fileOf pool8 2 #[.nestMembers #[106]] #[] 1057 12 #[111, 113, 115] #[{ accessFlags := 18, nameIndex := 5, descriptorIndex := 6, attributes := #[] }, { accessFlags := 18, nameIndex := 9, descriptorIndex := 10, attributes := #[] }, { accessFlags := 2, nameIndex := 19, descriptorIndex := 10, attributes := #[] }])
  fields := #[{ name := "name", type := (.object "java/lang/String"), accessFlags := 18, slot := 0, constantValue := 0 }, { name := "ordinal", type := .int, accessFlags := 18, slot := 1, constantValue := 0 }, { name := "hash", type := .int, accessFlags := 2, slot := 2, constantValue := 0 }]
  methods := #[]
  instanceTypes := #[(.object "java/lang/String"), .int, .int]
  staticTypes := #[]
  resolved := Array.replicate 204 none
  statics := none }

def pool9 : Array CpInfo := pool [(1, .class_ 2), (0, u "com/example/annotable/annotable/PathQuery$Comparison"), (2, u "EQUAL"), (0, u "Lcom/example/annotable/annotable/PathQuery$Comparison;"), (2, u "NOT_EQUAL"), (2, u "LESS"), (2, u "LESS_OR_EQUAL"), (2, u "GREATER"), (2, u "GREATER_OR_EQUAL"), (0, .fieldref 1 23), (0, .nameAndType 24 25), (0, u "$VALUES"), (0, u "[Lcom/example/annotable/annotable/PathQuery$Comparison;"), (0, .methodref 27 28), (0, .class_ 25), (0, .nameAndType 29 30), (0, u "clone"), (0, u "()Ljava/lang/Object;"), (1, .class_ 34), (1, u "java/lang/Enum"), (6, .fieldref 1 42), (0, .nameAndType 43 44), (0, u "symbol"), (0, u "Ljava/lang/String;"), (4, .methodref 1 50), (0, .nameAndType 51 52), (0, u "values"), (0, u "()[Lcom/example/annotable/annotable/PathQuery$Comparison;"), (0, .methodref 54 55), (0, .class_ 56), (0, .nameAndType 57 58), (0, u "java/lang/String"), (0, u "equals"), (0, u "(Ljava/lang/Object;)Z"), (26, u "(Ljava/lang/String;)Lcom/example/annotable/annotable/PathQuery$Comparison;"), (7, u "of"), (6, .class_ 101), (0, u "com/example/annotable/annotable/PathQuery")] 2

def k9c0 : Code := { maxStack := 1, maxLocals := 0, code := prog_16_method_1_code, exceptionTable := #[], attributes := #[] }
def k9m0 : Method := { name := "values", desc := "()[Lcom/example/annotable/annotable/PathQuery$Comparison;", sig := { parameters := [], returnType := some (.array (.object "com/example/annotable/annotable/PathQuery$Comparison")) }, accessFlags := 9, code := some k9c0 }
def k9c1 : Code := { maxStack := 2, maxLocals := 5, code := prog_16_method_6_code, exceptionTable := #[], attributes := #[] }
def k9m1 : Method := { name := "of", desc := "(Ljava/lang/String;)Lcom/example/annotable/annotable/PathQuery$Comparison;", sig := { parameters := [(.object "java/lang/String")], returnType := some (.object "com/example/annotable/annotable/PathQuery$Comparison") }, accessFlags := 8, code := some k9c1 }
/-- com/example/annotable/annotable/PathQuery$Comparison -/
def k9 : Class := { plain "com/example/annotable/annotable/PathQuery$Comparison" (some 8) with
  accessFlags := 16432
  interfaces := #[]
  cf := some (fileOf pool9 1 #[.nestHost 100] #[{ accessFlags := 9, nameIndex := 51, descriptorIndex := 52, attributes := #[] }, { accessFlags := 8, nameIndex := 93, descriptorIndex := 85, attributes := #[] }] 16432 32 #[] #[{ accessFlags := 16409, nameIndex := 5, descriptorIndex := 6, attributes := #[] }, { accessFlags := 16409, nameIndex := 9, descriptorIndex := 6, attributes := #[] }, { accessFlags := 16409, nameIndex := 12, descriptorIndex := 6, attributes := #[] }, { accessFlags := 16409, nameIndex := 15, descriptorIndex := 6, attributes := #[] }, { accessFlags := 16409, nameIndex := 18, descriptorIndex := 6, attributes := #[] }, { accessFlags := 16409, nameIndex := 21, descriptorIndex := 6, attributes := #[] }, { accessFlags := 18, nameIndex := 43, descriptorIndex := 44, attributes := #[] }, { accessFlags := 4122, nameIndex := 24, descriptorIndex := 25, attributes := #[] }])
  fields := #[{ name := "EQUAL", type := (.object "com/example/annotable/annotable/PathQuery$Comparison"), accessFlags := 16409, slot := 0, constantValue := 0 }, { name := "NOT_EQUAL", type := (.object "com/example/annotable/annotable/PathQuery$Comparison"), accessFlags := 16409, slot := 1, constantValue := 0 }, { name := "LESS", type := (.object "com/example/annotable/annotable/PathQuery$Comparison"), accessFlags := 16409, slot := 2, constantValue := 0 }, { name := "LESS_OR_EQUAL", type := (.object "com/example/annotable/annotable/PathQuery$Comparison"), accessFlags := 16409, slot := 3, constantValue := 0 }, { name := "GREATER", type := (.object "com/example/annotable/annotable/PathQuery$Comparison"), accessFlags := 16409, slot := 4, constantValue := 0 }, { name := "GREATER_OR_EQUAL", type := (.object "com/example/annotable/annotable/PathQuery$Comparison"), accessFlags := 16409, slot := 5, constantValue := 0 }, { name := "symbol", type := (.object "java/lang/String"), accessFlags := 18, slot := 3, constantValue := 0 }, { name := "$VALUES", type := (.array (.object "com/example/annotable/annotable/PathQuery$Comparison")), accessFlags := 4122, slot := 6, constantValue := 0 }]
  methods := #[k9m0, k9m1]
  instanceTypes := #[(.object "java/lang/String"), .int, .int, (.object "java/lang/String")]
  staticTypes := #[(.object "com/example/annotable/annotable/PathQuery$Comparison"), (.object "com/example/annotable/annotable/PathQuery$Comparison"), (.object "com/example/annotable/annotable/PathQuery$Comparison"), (.object "com/example/annotable/annotable/PathQuery$Comparison"), (.object "com/example/annotable/annotable/PathQuery$Comparison"), (.object "com/example/annotable/annotable/PathQuery$Comparison"), (.array (.object "com/example/annotable/annotable/PathQuery$Comparison"))]
  resolved := Array.replicate 104 none
  statics := some 1 }

def pool10 : Array CpInfo := pool [(1, .class_ 2), (0, u "java/lang/Cloneable"), (0, .class_ 4), (0, u "java/lang/Object")] 2

/-- java/lang/Cloneable -/
def k10 : Class := { plain "java/lang/Cloneable" (some 0) with
  accessFlags := 1537
  interfaces := #[]
  cf := some (fileOf pool10 1 #[] #[] 1537 3 #[] #[])
  fields := #[]
  methods := #[]
  instanceTypes := #[]
  staticTypes := #[]
  resolved := Array.replicate 7 none
  statics := none }

def pool11 : Array CpInfo := pool [(4, .class_ 6), (1, u "java/lang/Object"), (0, u "<init>"), (0, u "()V"), (5, .class_ 16), (1, u "java/lang/StringLatin1"), (73, u "canEncode"), (14, u "(C)Z"), (15, u "$assertionsDisabled"), (0, u "Z"), (98, .class_ 223), (1, u "java/lang/StringLatin1$LinesSpliterator"), (57, u "equals"), (0, u "([B[B)Z"), (97, u "toBytes"), (1, u "(C)[B"), (7, .class_ 391), (0, u "java/lang/StringLatin1$CharsSpliterator")] 3

def k11m0 : Method := { name := "<init>", desc := "()V", sig := { parameters := [], returnType := none }, accessFlags := 0, code := none }
def k11c1 : Code := { maxStack := 2, maxLocals := 1, code := jdk_43_method_3_code, exceptionTable := #[], attributes := #[] }
def k11m1 : Method := { name := "canEncode", desc := "(C)Z", sig := { parameters := [.char], returnType := some .boolean }, accessFlags := 9, code := some k11c1 }
def k11c2 : Code := { maxStack := 3, maxLocals := 3, code := jdk_43_method_13_code, exceptionTable := #[], attributes := #[] }
def k11m2 : Method := { name := "equals", desc := "([B[B)Z", sig := { parameters := [(.array .byte), (.array .byte)], returnType := some .boolean }, accessFlags := 9, code := some k11c2 }
def k11c3 : Code := { maxStack := 4, maxLocals := 1, code := jdk_43_method_46_code, exceptionTable := #[], attributes := #[] }
def k11m3 : Method := { name := "toBytes", desc := "(C)[B", sig := { parameters := [.char], returnType := some (.array .byte) }, accessFlags := 9, code := some k11c3 }
/-- java/lang/StringLatin1 -/
def k11 : Class := { plain "java/lang/StringLatin1" (some 0) with
  accessFlags := 48
  interfaces := #[]
  cf := some (fileOf pool11 14 #[.nestMembers #[390, 221]] #[{ accessFlags := 0, nameIndex := 7, descriptorIndex := 8, attributes := #[] }, { accessFlags := 9, nameIndex := 90, descriptorIndex := 105, attributes := #[] }, { accessFlags := 9, nameIndex := 281, descriptorIndex := 282, attributes := #[] }, { accessFlags := 9, nameIndex := 380, descriptorIndex := 382, attributes := #[] }] 48 4 #[] #[{ accessFlags := 4120, nameIndex := 121, descriptorIndex := 122, attributes := #[] }])
  fields := #[{ name := "$assertionsDisabled", type := .boolean, accessFlags := 4120, slot := 0, constantValue := 0 }]
  methods := #[k11m0, k11m1, k11m2, k11m3]
  instanceTypes := #[]
  staticTypes := #[.boolean]
  resolved := Array.replicate 395 none
  statics := none }

def pool12 : Array CpInfo := pool [(6, .class_ 8), (1, u "java/lang/Object"), (0, u "<init>"), (0, u "()V"), (1, .class_ 14), (1, u "java/lang/StringUTF16"), (31, u "$assertionsDisabled"), (0, u "Z"), (13, u "HI_BYTE_SHIFT"), (0, u "I"), (2, u "LO_BYTE_SHIFT"), (49, .methodref 12 116), (0, .nameAndType 117 118), (0, u "compress"), (0, u "([CI[BII)I"), (3, u "([CII)[B"), (138, u "coderFromArrayLen"), (0, u "([BI)B"), (106, .class_ 371), (1, u "java/lang/StringUTF16$LinesSpliterator"), (58, u "MAX_LENGTH"), (196, .class_ 628), (0, u "java/lang/StringUTF16$CodePointsSpliterator"), (0, .class_ 630), (0, u "java/lang/StringUTF16$CharsSpliterator")] 4

def k12m0 : Method := { name := "<init>", desc := "()V", sig := { parameters := [], returnType := none }, accessFlags := 0, code := none }
def k12c1 : Code := { maxStack := 2, maxLocals := 2, code := jdk_52_method_15_code, exceptionTable := #[], attributes := #[] }
def k12m1 : Method := { name := "coderFromArrayLen", desc := "([BI)B", sig := { parameters := [(.array .byte), .int], returnType := some .byte }, accessFlags := 8, code := some k12c1 }
def k12c2 : Code := { maxStack := 5, maxLocals := 6, code := jdk_52_method_16_code, exceptionTable := #[], attributes := #[] }
def k12m2 : Method := { name := "compress", desc := "([CII)[B", sig := { parameters := [(.array .char), .int, .int], returnType := some (.array .byte) }, accessFlags := 9, code := some k12c2 }
def k12c3 : Code := { maxStack := 3, maxLocals := 7, code := jdk_52_method_21_code, exceptionTable := #[], attributes := #[] }
def k12m3 : Method := { name := "compress", desc := "([CI[BII)I", sig := { parameters := [(.array .char), .int, (.array .byte), .int, .int], returnType := some .int }, accessFlags := 9, code := some k12c3 }
/-- java/lang/StringUTF16 -/
def k12 : Class := { plain "java/lang/StringUTF16" (some 0) with
  accessFlags := 48
  interfaces := #[]
  cf := some (fileOf pool12 12 #[.nestMembers #[627, 629, 369]] #[{ accessFlags := 0, nameIndex := 9, descriptorIndex := 10, attributes := #[] }, { accessFlags := 8, nameIndex := 261, descriptorIndex := 262, attributes := #[] }, { accessFlags := 9, nameIndex := 117, descriptorIndex := 122, attributes := #[] }, { accessFlags := 9, nameIndex := 117, descriptorIndex := 118, attributes := #[] }] 48 6 #[] #[{ accessFlags := 26, nameIndex := 61, descriptorIndex := 62, attributes := #[] }, { accessFlags := 26, nameIndex := 65, descriptorIndex := 62, attributes := #[] }, { accessFlags := 24, nameIndex := 430, descriptorIndex := 62, attributes := #[] }, { accessFlags := 4120, nameIndex := 46, descriptorIndex := 47, attributes := #[] }])
  fields := #[{ name := "HI_BYTE_SHIFT", type := .int, accessFlags := 26, slot := 0, constantValue := 0 }, { name := "LO_BYTE_SHIFT", type := .int, accessFlags := 26, slot := 1, constantValue := 0 }, { name := "MAX_LENGTH", type := .int, accessFlags := 24, slot := 2, constantValue := 0 }, { name := "$assertionsDisabled", type := .boolean, accessFlags := 4120, slot := 3, constantValue := 0 }]
  methods := #[k12m0, k12m1, k12m2, k12m3]
  instanceTypes := #[]
  staticTypes := #[.int, .int, .int, .boolean]
  resolved := Array.replicate 635 none
  statics := none }

def pool13 : Array CpInfo := pool [(2, .class_ 4), (1, u "java/lang/Object"), (0, u "<init>"), (0, u "()V"), (17, .class_ 26), (1, u "jdk/internal/util/Preconditions"), (28, .class_ 56), (0, u "jdk/internal/util/Preconditions$4"), (57, .class_ 115), (0, u "jdk/internal/util/Preconditions$1"), (7, u "SIOOBE_FORMATTER"), (0, u "Ljava/util/function/BiFunction;"), (0, .class_ 126), (0, u "jdk/internal/util/Preconditions$2"), (3, u "AIOOBE_FORMATTER"), (0, .class_ 132), (0, u "jdk/internal/util/Preconditions$3"), (3, u "IOOBE_FORMATTER")] 57

def k13m0 : Method := { name := "<init>", desc := "()V", sig := { parameters := [], returnType := none }, accessFlags := 1, code := none }
/-- jdk/internal/util/Preconditions -/
def k13 : Class := { plain "jdk/internal/util/Preconditions" (some 0) with
  accessFlags := 33
  interfaces := #[]
  cf := some (fileOf pool13 24 #[.nestMembers #[55, 131, 125, 114]] #[{ accessFlags := 1, nameIndex := 5, descriptorIndex := 6, attributes := #[] }] 33 2 #[] #[{ accessFlags := 25, nameIndex := 123, descriptorIndex := 124, attributes := #[] }, { accessFlags := 25, nameIndex := 130, descriptorIndex := 124, attributes := #[] }, { accessFlags := 25, nameIndex := 136, descriptorIndex := 124, attributes := #[] }])
  fields := #[{ name := "SIOOBE_FORMATTER", type := (.object "java/util/function/BiFunction"), accessFlags := 25, slot := 0, constantValue := 0 }, { name := "AIOOBE_FORMATTER", type := (.object "java/util/function/BiFunction"), accessFlags := 25, slot := 1, constantValue := 0 }, { name := "IOOBE_FORMATTER", type := (.object "java/util/function/BiFunction"), accessFlags := 25, slot := 2, constantValue := 0 }]
  methods := #[k13m0]
  instanceTypes := #[]
  staticTypes := #[(.object "java/util/function/BiFunction"), (.object "java/util/function/BiFunction"), (.object "java/util/function/BiFunction")]
  resolved := Array.replicate 194 none
  statics := some 2 }

def pool14 : Array CpInfo := pool [(9, u "<init>"), (6, .class_ 18), (1, u "java/lang/Object"), (0, u "()V"), (1, .class_ 23), (1, u "jdk/internal/util/ArraysSupport"), (0, u "LOG2_ARRAY_LONG_INDEX_SCALE"), (0, u "I"), (2, u "U"), (0, u "Ljdk/internal/misc/Unsafe;"), (8, u "BIG_ENDIAN"), (0, u "Z"), (8, u "LOG2_BYTE_BIT_SIZE"), (4, u "LOG2_ARRAY_INT_INDEX_SCALE"), (54, u "JLA"), (0, u "Ljdk/internal/access/JavaLangAccess;"), (11, u "LOG2_ARRAY_BOOLEAN_INDEX_SCALE"), (9, u "LOG2_ARRAY_BYTE_INDEX_SCALE"), (5, u "LOG2_ARRAY_CHAR_INDEX_SCALE"), (5, u "LOG2_ARRAY_SHORT_INDEX_SCALE"), (18, u "LOG2_ARRAY_FLOAT_INDEX_SCALE"), (24, u "LOG2_ARRAY_DOUBLE_INDEX_SCALE"), (89, u "T_BOOLEAN"), (2, u "T_CHAR"), (1, u "T_FLOAT"), (1, u "T_DOUBLE"), (1, u "T_BYTE"), (1, u "T_SHORT"), (1, u "T_INT"), (1, u "T_LONG"), (1, u "SOFT_MAX_ARRAY_LENGTH")] 83

def k14m0 : Method := { name := "<init>", desc := "()V", sig := { parameters := [], returnType := none }, accessFlags := 2, code := none }
/-- jdk/internal/util/ArraysSupport -/
def k14 : Class := { plain "jdk/internal/util/ArraysSupport" (some 0) with
  accessFlags := 33
  interfaces := #[]
  cf := some (fileOf pool14 21 #[] #[{ accessFlags := 2, nameIndex := 9, descriptorIndex := 19, attributes := #[] }] 33 16 #[] #[{ accessFlags := 24, nameIndex := 28, descriptorIndex := 29, attributes := #[] }, { accessFlags := 26, nameIndex := 38, descriptorIndex := 39, attributes := #[] }, { accessFlags := 25, nameIndex := 121, descriptorIndex := 25, attributes := #[] }, { accessFlags := 25, nameIndex := 131, descriptorIndex := 25, attributes := #[] }, { accessFlags := 25, nameIndex := 137, descriptorIndex := 25, attributes := #[] }, { accessFlags := 25, nameIndex := 143, descriptorIndex := 25, attributes := #[] }, { accessFlags := 25, nameIndex := 53, descriptorIndex := 25, attributes := #[] }, { accessFlags := 25, nameIndex := 24, descriptorIndex := 25, attributes := #[] }, { accessFlags := 25, nameIndex := 162, descriptorIndex := 25, attributes := #[] }, { accessFlags := 25, nameIndex := 187, descriptorIndex := 25, attributes := #[] }, { accessFlags := 26, nameIndex := 48, descriptorIndex := 25, attributes := #[] }, { accessFlags := 25, nameIndex := 277, descriptorIndex := 25, attributes := #[] }, { accessFlags := 25, nameIndex := 280, descriptorIndex := 25, attributes := #[] }, { accessFlags := 25, nameIndex := 282, descriptorIndex := 25, attributes := #[] }, { accessFlags := 25, nameIndex := 284, descriptorIndex := 25, attributes := #[] }, { accessFlags := 25, nameIndex := 286, descriptorIndex := 25, attributes := #[] }, { accessFlags := 25, nameIndex := 288, descriptorIndex := 25, attributes := #[] }, { accessFlags := 25, nameIndex := 290, descriptorIndex := 25, attributes := #[] }, { accessFlags := 25, nameIndex := 292, descriptorIndex := 25, attributes := #[] }, { accessFlags := 26, nameIndex := 108, descriptorIndex := 109, attributes := #[] }, { accessFlags := 25, nameIndex := 294, descriptorIndex := 25, attributes := #[] }])
  fields := #[{ name := "U", type := (.object "jdk/internal/misc/Unsafe"), accessFlags := 24, slot := 0, constantValue := 0 }, { name := "BIG_ENDIAN", type := .boolean, accessFlags := 26, slot := 1, constantValue := 0 }, { name := "LOG2_ARRAY_BOOLEAN_INDEX_SCALE", type := .int, accessFlags := 25, slot := 2, constantValue := 0 }, { name := "LOG2_ARRAY_BYTE_INDEX_SCALE", type := .int, accessFlags := 25, slot := 3, constantValue := 0 }, { name := "LOG2_ARRAY_CHAR_INDEX_SCALE", type := .int, accessFlags := 25, slot := 4, constantValue := 0 }, { name := "LOG2_ARRAY_SHORT_INDEX_SCALE", type := .int, accessFlags := 25, slot := 5, constantValue := 0 }, { name := "LOG2_ARRAY_INT_INDEX_SCALE", type := .int, accessFlags := 25, slot := 6, constantValue := 0 }, { name := "LOG2_ARRAY_LONG_INDEX_SCALE", type := .int, accessFlags := 25, slot := 7, constantValue := 0 }, { name := "LOG2_ARRAY_FLOAT_INDEX_SCALE", type := .int, accessFlags := 25, slot := 8, constantValue := 0 }, { name := "LOG2_ARRAY_DOUBLE_INDEX_SCALE", type := .int, accessFlags := 25, slot := 9, constantValue := 0 }, { name := "LOG2_BYTE_BIT_SIZE", type := .int, accessFlags := 26, slot := 10, constantValue := 0 }, { name := "T_BOOLEAN", type := .int, accessFlags := 25, slot := 11, constantValue := 0 }, { name := "T_CHAR", type := .int, accessFlags := 25, slot := 12, constantValue := 0 }, { name := "T_FLOAT", type := .int, accessFlags := 25, slot := 13, constantValue := 0 }, { name := "T_DOUBLE", type := .int, accessFlags := 25, slot := 14, constantValue := 0 }, { name := "T_BYTE", type := .int, accessFlags := 25, slot := 15, constantValue := 0 }, { name := "T_SHORT", type := .int, accessFlags := 25, slot := 16, constantValue := 0 }, { name := "T_INT", type := .int, accessFlags := 25, slot := 17, constantValue := 0 }, { name := "T_LONG", type := .int, accessFlags := 25, slot := 18, constantValue := 0 }, { name := "JLA", type := (.object "jdk/internal/access/JavaLangAccess"), accessFlags := 26, slot := 19, constantValue := 0 }, { name := "SOFT_MAX_ARRAY_LENGTH", type := .int, accessFlags := 25, slot := 20, constantValue := 0 }]
  methods := #[k14m0]
  instanceTypes := #[]
  staticTypes := #[(.object "jdk/internal/misc/Unsafe"), .boolean, .int, .int, .int, .int, .int, .int, .int, .int, .int, .int, .int, .int, .int, .int, .int, .int, .int, (.object "jdk/internal/access/JavaLangAccess"), .int]
  resolved := Array.replicate 378 none
  statics := none }

/-- the primitive byte -/
def k15 : Class := { plain "byte" none with kind := .primitive 'B', accessFlags := 0x411 }
/-- [B -/
def k16 : Class := { plain "[B" (some 0) with kind := .array 15 .byte, interfaces := #[10, 2], accessFlags := 1041 }

/-- the primitive char -/
def k17 : Class := { plain "char" none with kind := .primitive 'C', accessFlags := 0x411 }
/-- [C -/
def k18 : Class := { plain "[C" (some 0) with kind := .array 17 .char, interfaces := #[10, 2], accessFlags := 1041 }

/-- the primitive int -/
def k19 : Class := { plain "int" none with kind := .primitive 'I', accessFlags := 0x411 }
/-- [I -/
def k20 : Class := { plain "[I" (some 0) with kind := .array 19 .int, interfaces := #[10, 2], accessFlags := 1041 }

/-- [Lcom/example/annotable/annotable/PathQuery$Comparison; -/
def k21 : Class := { plain "[Lcom/example/annotable/annotable/PathQuery$Comparison;" (some 0) with kind := .array 9 (.object "com/example/annotable/annotable/PathQuery$Comparison"), interfaces := #[10, 2], accessFlags := 1041 }

def heap : Heap := #[{ cls := 7, slots := #[.long 0, .int 1, .null, .int 0, .null, .int 0, .int 0], vm := .statics 7 },
  { cls := 9, slots := #[.ref 4, .ref 5, .ref 6, .ref 7, .ref 8, .ref 9, .ref 3], vm := .statics 9 },
  { cls := 13, slots := #[.null, .null, .null], vm := .statics 13 },
  { cls := 21, slots := #[.ref 4, .ref 5, .ref 6, .ref 7, .ref 8, .ref 9], vm := .none },
  { cls := 9, slots := #[.null, .int 0, .int 0, .ref 10], vm := .none },
  { cls := 9, slots := #[.null, .int 0, .int 0, .ref 11], vm := .none },
  { cls := 9, slots := #[.null, .int 0, .int 0, .ref 12], vm := .none },
  { cls := 9, slots := #[.null, .int 0, .int 0, .ref 13], vm := .none },
  { cls := 9, slots := #[.null, .int 0, .int 0, .ref 14], vm := .none },
  { cls := 9, slots := #[.null, .int 0, .int 0, .ref 15], vm := .none },
  { cls := 7, slots := #[.ref 16, .int 0, .int 0, .int 0], vm := .none },
  { cls := 7, slots := #[.ref 17, .int 0, .int 0, .int 0], vm := .none },
  { cls := 7, slots := #[.ref 18, .int 0, .int 0, .int 0], vm := .none },
  { cls := 7, slots := #[.ref 19, .int 0, .int 0, .int 0], vm := .none },
  { cls := 7, slots := #[.ref 20, .int 0, .int 0, .int 0], vm := .none },
  { cls := 7, slots := #[.ref 21, .int 0, .int 0, .int 0], vm := .none },
  { cls := 16, slots := #[.int 61], vm := .none },
  { cls := 16, slots := #[.int 33, .int 61], vm := .none },
  { cls := 16, slots := #[.int 60], vm := .none },
  { cls := 16, slots := #[.int 60, .int 61], vm := .none },
  { cls := 16, slots := #[.int 62], vm := .none },
  { cls := 16, slots := #[.int 62, .int 61], vm := .none }]
def classes : Array Class := #[k0, k1, k2, k3, k4, k5, k6, k7, k8, k9, k10, k11, k12, k13, k14, k15, k16, k17, k18, k19, k20, k21]
def interned : List (Array UInt16 × Addr) := []
def slotsUsed : Nat := 80
def theMethod : MethodId := ⟨1, 1⟩
def args0 : Array Value := #[.int 1, .int 316, .int 5, .int 6]
def aboutOver (below : List Frame) : State where
  vm := { classes := classes, interned := interned.toArray }
  heap := heap
  slotsUsed := slotsUsed
  threads := #[{ frames := .invoking theMethod args0 :: below }]
def below0 : List Frame := [.native { method := ⟨0, 0⟩, args := #[] }]
def about1 : State := aboutOver below0
def p0 : Program := .bare "" "" ""
def e0 : Env := launch0.env 0 0 0
theorem w_frames : about1.frames = Frame.invoking theMethod args0 :: below0 := rfl
set_option maxRecDepth 65536 in
theorem w_args : argsFit about1.vm theMethod args0 = true := by decide +kernel
set_option maxRecDepth 65536 in
theorem w_heap : heapFits about1 = true := by decide +kernel
set_option maxRecDepth 65536 in
theorem w_runnable : about1.curStatus? = some .runnable := by decide +kernel
set_option maxRecDepth 65536 in
theorem w_alone : about1.alone = true := by decide +kernel
set_option maxRecDepth 65536 in
theorem w_named : about1.methodNamed? x = some theMethod := by decide +kernel
set_option maxRecDepth 65536 in
theorem w_hears : about1.hears theMethod below0 = true := by decide +kernel
set_option maxRecDepth 65536 in
theorem w_ripe : about1.ripe theMethod args0 below0 = true := by decide +kernel
theorem w_running : about1.status = .running := rfl
set_option maxRecDepth 65536 in
theorem w_room : about1.hasRoom e0.platform room_1 = true :=
  launch0.hasRoom_least _ room_1 (by decide +kernel) (by decide +kernel) (by decide +kernel) (by decide +kernel) (by decide +kernel) (by decide +kernel)
theorem allAtoms_all (ts : List Jvm.Cond) (a : Array Jvm.Value) (st : Jvm.State) : (allAtoms ts).before a st = ts.all (fun c => c.before a st) := by
  induction ts with
  | nil => rfl
  | cons c t ih =>
    show (Jvm.Cond.and c (allAtoms t)).before a st = _
    rw [Jvm.Cond.before_and, ih, List.all_cons]
def words1 : List Jvm.Cond := Jvm.Cond.code x code maxLocals ret :: tables_1
/-- a 'code' word, met by the world's own term for the bytes: nothing is compared byte by byte -/
theorem code_word {y : MethodName} {bytes : ByteArray} {mx : Nat} {rt : Option FieldType} {a : Array Value} {s : State} {m : MethodId} {meth : Method} {c : Code} (h1 : s.methodNamed? y = some m) (h2 : s.vm.method? m = some meth) (h3 : meth.code = some c) (h4 : c.code = bytes)
    (h5 : (c.maxLocals == mx && c.exceptionTable.isEmpty && decide (c.maxStack ≤ mostOperands) && decide (meth.sig.returnType = rt) && !meth.locks && decide (parseMethodDescriptor y.desc = some meth.sig)) = true) : (Jvm.Cond.code y bytes mx rt).before a s = true := by
  simp only [Bool.and_eq_true, beq_iff_eq, Bool.not_eq_true', decide_eq_true_eq] at h5
  obtain ⟨⟨⟨⟨⟨g1, g2⟩, g3⟩, g4⟩, g5⟩, g6⟩ := h5
  simp [Cond.before, Cond.holds, Cond.value, h1, h2, h3, h4, g1, g2, g3, g4, g5, g6]
def isCode : Jvm.Cond → Bool
  | .code _ _ _ _ => true
  | _ => false
theorem all_split {L : List Jvm.Cond} {P : Jvm.Cond → Bool} (h1 : L.all (fun c => isCode c || P c) = true) (h2 : ∀ c ∈ L.filter isCode, P c = true) : L.all P = true := by
  refine List.all_eq_true.mpr fun c hc => ?_
  have h := List.all_eq_true.mp h1 c hc
  rcases Bool.eq_false_or_eq_true (isCode c) with hi | hi
  · exact h2 c (List.mem_filter.mpr ⟨hc, hi⟩)
  · simpa [hi] using h
set_option maxRecDepth 65536 in
theorem w_c0 : (Jvm.Cond.code x code maxLocals ret).before args0 about1 = true := code_word (m := ⟨1, 1⟩) (meth := k1m1) (c := k1c1) (by decide +kernel) rfl rfl rfl (by decide +kernel)
set_option maxRecDepth 65536 in
theorem w_c1 : (Jvm.Cond.code ({ cls := "com/example/annotable/annotable/ComparisonOfPinLaw", name := "ch", desc := "(I)C" } : Jvm.MethodName) method_3_code (2 : Nat) (Option.some Jvm.ClassFile.FieldType.char)).before args0 about1 = true := code_word (m := ⟨1, 2⟩) (meth := k1m2) (c := k1c2) (by decide +kernel) rfl rfl rfl (by decide +kernel)
set_option maxRecDepth 65536 in
theorem w_c2 : (Jvm.Cond.code ({ cls := "com/example/annotable/annotable/ComparisonOfPinLaw", name := "make", desc := "(ICCC)Ljava/lang/String;" } : Jvm.MethodName) method_4_code (4 : Nat) (Option.some (Jvm.ClassFile.FieldType.object "java/lang/String"))).before args0 about1 = true := code_word (m := ⟨1, 3⟩) (meth := k1m3) (c := k1c3) (by decide +kernel) rfl rfl rfl (by decide +kernel)
set_option maxRecDepth 65536 in
theorem w_c3 : (Jvm.Cond.code ({ cls := "java/lang/String", name := "<init>", desc := "([C)V" } : Jvm.MethodName) jdk_42_method_3_code (2 : Nat) (Option.none : Option Jvm.ClassFile.FieldType)).before args0 about1 = true := code_word (m := ⟨7, 1⟩) (meth := k7m1) (c := k7c1) (by decide +kernel) rfl rfl rfl (by decide +kernel)
set_option maxRecDepth 65536 in
theorem w_c4 : (Jvm.Cond.code ({ cls := "java/lang/String", name := "<init>", desc := "([CIILjava/lang/Void;)V" } : Jvm.MethodName) jdk_42_method_149_code (6 : Nat) (Option.none : Option Jvm.ClassFile.FieldType)).before args0 about1 = true := code_word (m := ⟨7, 4⟩) (meth := k7m4) (c := k7c4) (by decide +kernel) rfl rfl rfl (by decide +kernel)
set_option maxRecDepth 65536 in
theorem w_c5 : (Jvm.Cond.code ({ cls := "java/lang/Object", name := "<init>", desc := "()V" } : Jvm.MethodName) object_method_1_code (1 : Nat) (Option.none : Option Jvm.ClassFile.FieldType)).before args0 about1 = true := code_word (m := ⟨0, 0⟩) (meth := k0m0) (c := k0c0) (by decide +kernel) rfl rfl rfl (by decide +kernel)
set_option maxRecDepth 65536 in
theorem w_c6 : (Jvm.Cond.code ({ cls := "com/example/annotable/annotable/ComparisonOfPinLaw", name := "expected", desc := "(ICC)Lcom/example/annotable/annotable/PathQuery$Comparison;" } : Jvm.MethodName) method_5_code (3 : Nat) (Option.some (Jvm.ClassFile.FieldType.object "com/example/annotable/annotable/PathQuery$Comparison"))).before args0 about1 = true := code_word (m := ⟨1, 4⟩) (meth := k1m4) (c := k1c4) (by decide +kernel) rfl rfl rfl (by decide +kernel)
set_option maxRecDepth 65536 in
theorem w_c7 : (Jvm.Cond.code ({ cls := "com/example/annotable/annotable/PathQuery$Comparison", name := "of", desc := "(Ljava/lang/String;)Lcom/example/annotable/annotable/PathQuery$Comparison;" } : Jvm.MethodName) prog_16_method_6_code (5 : Nat) (Option.some (Jvm.ClassFile.FieldType.object "com/example/annotable/annotable/PathQuery$Comparison"))).before args0 about1 = true := code_word (m := ⟨9, 1⟩) (meth := k9m1) (c := k9c1) (by decide +kernel) rfl rfl rfl (by decide +kernel)
set_option maxRecDepth 65536 in
theorem w_c8 : (Jvm.Cond.code ({ cls := "com/example/annotable/annotable/PathQuery$Comparison", name := "values", desc := "()[Lcom/example/annotable/annotable/PathQuery$Comparison;" } : Jvm.MethodName) prog_16_method_1_code (0 : Nat) (Option.some (Jvm.ClassFile.FieldType.array (Jvm.ClassFile.FieldType.object "com/example/annotable/annotable/PathQuery$Comparison")))).before args0 about1 = true := code_word (m := ⟨9, 0⟩) (meth := k9m0) (c := k9c0) (by decide +kernel) rfl rfl rfl (by decide +kernel)
set_option maxRecDepth 65536 in
theorem w_c9 : (Jvm.Cond.code ({ cls := "java/lang/String", name := "equals", desc := "(Ljava/lang/Object;)Z" } : Jvm.MethodName) jdk_42_method_66_code (3 : Nat) (Option.some Jvm.ClassFile.FieldType.boolean)).before args0 about1 = true := code_word (m := ⟨7, 2⟩) (meth := k7m2) (c := k7c2) (by decide +kernel) rfl rfl rfl (by decide +kernel)
set_option maxRecDepth 65536 in
theorem w_c10 : (Jvm.Cond.code ({ cls := "java/lang/StringLatin1", name := "equals", desc := "([B[B)Z" } : Jvm.MethodName) jdk_43_method_13_code (3 : Nat) (Option.some Jvm.ClassFile.FieldType.boolean)).before args0 about1 = true := code_word (m := ⟨11, 2⟩) (meth := k11m2) (c := k11c2) (by decide +kernel) rfl rfl rfl (by decide +kernel)
set_option maxRecDepth 65536 in
theorem w_c11 : (Jvm.Cond.code ({ cls := "java/lang/StringUTF16", name := "compress", desc := "([CII)[B" } : Jvm.MethodName) jdk_52_method_16_code (6 : Nat) (Option.some (Jvm.ClassFile.FieldType.array Jvm.ClassFile.FieldType.byte))).before args0 about1 = true := code_word (m := ⟨12, 2⟩) (meth := k12m2) (c := k12c2) (by decide +kernel) rfl rfl rfl (by decide +kernel)
set_option maxRecDepth 65536 in
theorem w_c12 : (Jvm.Cond.code ({ cls := "java/lang/StringUTF16", name := "compress", desc := "([CI[BII)I" } : Jvm.MethodName) jdk_52_method_21_code (7 : Nat) (Option.some Jvm.ClassFile.FieldType.int)).before args0 about1 = true := code_word (m := ⟨12, 3⟩) (meth := k12m3) (c := k12c3) (by decide +kernel) rfl rfl rfl (by decide +kernel)
set_option maxRecDepth 65536 in
theorem w_c13 : (Jvm.Cond.code ({ cls := "java/lang/StringUTF16", name := "coderFromArrayLen", desc := "([BI)B" } : Jvm.MethodName) jdk_52_method_15_code (2 : Nat) (Option.some Jvm.ClassFile.FieldType.byte)).before args0 about1 = true := code_word (m := ⟨12, 1⟩) (meth := k12m1) (c := k12c1) (by decide +kernel) rfl rfl rfl (by decide +kernel)
set_option maxRecDepth 65536 in
theorem w_c14 : (Jvm.Cond.code ({ cls := "java/lang/String", name := "valueOf", desc := "(C)Ljava/lang/String;" } : Jvm.MethodName) jdk_42_method_139_code (1 : Nat) (Option.some (Jvm.ClassFile.FieldType.object "java/lang/String"))).before args0 about1 = true := code_word (m := ⟨7, 3⟩) (meth := k7m3) (c := k7c3) (by decide +kernel) rfl rfl rfl (by decide +kernel)
set_option maxRecDepth 65536 in
theorem w_c15 : (Jvm.Cond.code ({ cls := "java/lang/StringLatin1", name := "canEncode", desc := "(C)Z" } : Jvm.MethodName) jdk_43_method_3_code (1 : Nat) (Option.some Jvm.ClassFile.FieldType.boolean)).before args0 about1 = true := code_word (m := ⟨11, 1⟩) (meth := k11m1) (c := k11c1) (by decide +kernel) rfl rfl rfl (by decide +kernel)
set_option maxRecDepth 65536 in
theorem w_c16 : (Jvm.Cond.code ({ cls := "java/lang/StringLatin1", name := "toBytes", desc := "(C)[B" } : Jvm.MethodName) jdk_43_method_46_code (1 : Nat) (Option.some (Jvm.ClassFile.FieldType.array Jvm.ClassFile.FieldType.byte))).before args0 about1 = true := code_word (m := ⟨11, 3⟩) (meth := k11m3) (c := k11c3) (by decide +kernel) rfl rfl rfl (by decide +kernel)
set_option maxRecDepth 65536 in
theorem w_c17 : (Jvm.Cond.code ({ cls := "java/lang/String", name := "<init>", desc := "([BB)V" } : Jvm.MethodName) jdk_42_method_151_code (3 : Nat) (Option.none : Option Jvm.ClassFile.FieldType)).before args0 about1 = true := code_word (m := ⟨7, 5⟩) (meth := k7m5) (c := k7c5) (by decide +kernel) rfl rfl rfl (by decide +kernel)
def codes1 : List Jvm.Cond := [Jvm.Cond.code x code maxLocals ret, Jvm.Cond.code ({ cls := "com/example/annotable/annotable/ComparisonOfPinLaw", name := "ch", desc := "(I)C" } : Jvm.MethodName) method_3_code (2 : Nat) (Option.some Jvm.ClassFile.FieldType.char), Jvm.Cond.code ({ cls := "com/example/annotable/annotable/ComparisonOfPinLaw", name := "make", desc := "(ICCC)Ljava/lang/String;" } : Jvm.MethodName) method_4_code (4 : Nat) (Option.some (Jvm.ClassFile.FieldType.object "java/lang/String")), Jvm.Cond.code ({ cls := "java/lang/String", name := "<init>", desc := "([C)V" } : Jvm.MethodName) jdk_42_method_3_code (2 : Nat) (Option.none : Option Jvm.ClassFile.FieldType), Jvm.Cond.code ({ cls := "java/lang/String", name := "<init>", desc := "([CIILjava/lang/Void;)V" } : Jvm.MethodName) jdk_42_method_149_code (6 : Nat) (Option.none : Option Jvm.ClassFile.FieldType), Jvm.Cond.code ({ cls := "java/lang/Object", name := "<init>", desc := "()V" } : Jvm.MethodName) object_method_1_code (1 : Nat) (Option.none : Option Jvm.ClassFile.FieldType), Jvm.Cond.code ({ cls := "com/example/annotable/annotable/ComparisonOfPinLaw", name := "expected", desc := "(ICC)Lcom/example/annotable/annotable/PathQuery$Comparison;" } : Jvm.MethodName) method_5_code (3 : Nat) (Option.some (Jvm.ClassFile.FieldType.object "com/example/annotable/annotable/PathQuery$Comparison")), Jvm.Cond.code ({ cls := "com/example/annotable/annotable/PathQuery$Comparison", name := "of", desc := "(Ljava/lang/String;)Lcom/example/annotable/annotable/PathQuery$Comparison;" } : Jvm.MethodName) prog_16_method_6_code (5 : Nat) (Option.some (Jvm.ClassFile.FieldType.object "com/example/annotable/annotable/PathQuery$Comparison")), Jvm.Cond.code ({ cls := "com/example/annotable/annotable/PathQuery$Comparison", name := "values", desc := "()[Lcom/example/annotable/annotable/PathQuery$Comparison;" } : Jvm.MethodName) prog_16_method_1_code (0 : Nat) (Option.some (Jvm.ClassFile.FieldType.array (Jvm.ClassFile.FieldType.object "com/example/annotable/annotable/PathQuery$Comparison"))), Jvm.Cond.code ({ cls := "java/lang/String", name := "equals", desc := "(Ljava/lang/Object;)Z" } : Jvm.MethodName) jdk_42_method_66_code (3 : Nat) (Option.some Jvm.ClassFile.FieldType.boolean), Jvm.Cond.code ({ cls := "java/lang/StringLatin1", name := "equals", desc := "([B[B)Z" } : Jvm.MethodName) jdk_43_method_13_code (3 : Nat) (Option.some Jvm.ClassFile.FieldType.boolean), Jvm.Cond.code ({ cls := "java/lang/StringUTF16", name := "compress", desc := "([CII)[B" } : Jvm.MethodName) jdk_52_method_16_code (6 : Nat) (Option.some (Jvm.ClassFile.FieldType.array Jvm.ClassFile.FieldType.byte)), Jvm.Cond.code ({ cls := "java/lang/StringUTF16", name := "compress", desc := "([CI[BII)I" } : Jvm.MethodName) jdk_52_method_21_code (7 : Nat) (Option.some Jvm.ClassFile.FieldType.int), Jvm.Cond.code ({ cls := "java/lang/StringUTF16", name := "coderFromArrayLen", desc := "([BI)B" } : Jvm.MethodName) jdk_52_method_15_code (2 : Nat) (Option.some Jvm.ClassFile.FieldType.byte), Jvm.Cond.code ({ cls := "java/lang/String", name := "valueOf", desc := "(C)Ljava/lang/String;" } : Jvm.MethodName) jdk_42_method_139_code (1 : Nat) (Option.some (Jvm.ClassFile.FieldType.object "java/lang/String")), Jvm.Cond.code ({ cls := "java/lang/StringLatin1", name := "canEncode", desc := "(C)Z" } : Jvm.MethodName) jdk_43_method_3_code (1 : Nat) (Option.some Jvm.ClassFile.FieldType.boolean), Jvm.Cond.code ({ cls := "java/lang/StringLatin1", name := "toBytes", desc := "(C)[B" } : Jvm.MethodName) jdk_43_method_46_code (1 : Nat) (Option.some (Jvm.ClassFile.FieldType.array Jvm.ClassFile.FieldType.byte)), Jvm.Cond.code ({ cls := "java/lang/String", name := "<init>", desc := "([BB)V" } : Jvm.MethodName) jdk_42_method_151_code (3 : Nat) (Option.none : Option Jvm.ClassFile.FieldType)]
set_option maxRecDepth 65536 in
theorem codes_eq : words1.filter isCode = codes1 := rfl
theorem w_codes : ∀ c ∈ words1.filter isCode, c.before args0 about1 = true := by
  rw [codes_eq]
  intro c hc
  simp only [codes1, List.mem_cons, List.not_mem_nil, or_false] at hc
  rcases hc with rfl | rfl | rfl | rfl | rfl | rfl | rfl | rfl | rfl | rfl | rfl | rfl | rfl | rfl | rfl | rfl | rfl | rfl
  · exact w_c0
  · exact w_c1
  · exact w_c2
  · exact w_c3
  · exact w_c4
  · exact w_c5
  · exact w_c6
  · exact w_c7
  · exact w_c8
  · exact w_c9
  · exact w_c10
  · exact w_c11
  · exact w_c12
  · exact w_c13
  · exact w_c14
  · exact w_c15
  · exact w_c16
  · exact w_c17
set_option maxRecDepth 65536 in
theorem w_t1 : (words1.take 24).all (fun c => isCode c || c.before args0 about1) = true := by decide +kernel
set_option maxRecDepth 65536 in
theorem w_t2 : ((words1.drop 24).take 24).all (fun c => isCode c || c.before args0 about1) = true := by decide +kernel
set_option maxRecDepth 65536 in
theorem w_t3 : (((words1.drop 24).drop 24).take 24).all (fun c => isCode c || c.before args0 about1) = true := by decide +kernel
set_option maxRecDepth 65536 in
theorem w_t4 : ((((words1.drop 24).drop 24).drop 24).take 24).all (fun c => isCode c || c.before args0 about1) = true := by decide +kernel
set_option maxRecDepth 65536 in
theorem w_t5 : ((((words1.drop 24).drop 24).drop 24).drop 24).all (fun c => isCode c || c.before args0 about1) = true := by decide +kernel
theorem w_tables : (allAtoms (Jvm.Cond.code x code maxLocals ret :: tables_1)).before args0 about1 = true := by
  rw [allAtoms_all]
  show words1.all (fun c => c.before args0 about1) = true
  refine all_split ?_ w_codes
  rw [← List.take_append_drop 24 words1, List.all_append, w_t1, ← List.take_append_drop 24 (words1.drop 24), List.all_append, w_t2, ← List.take_append_drop 24 ((words1.drop 24).drop 24), List.all_append, w_t3, ← List.take_append_drop 24 (((words1.drop 24).drop 24).drop 24), List.all_append, w_t4, w_t5]
  rfl
set_option maxRecDepth 65536 in
theorem w_rest : rest_1_c.before args0 about1 = true := by decide +kernel
set_option maxRecDepth 65536 in
theorem w_case : (Jvm.Cond.and given_1 narrow_1).before args0 about1 = true := by decide +kernel
set_option maxRecDepth 65536 in
theorem w_consts : constsHeld consts_1 about1 := Jvm.Lit.constsHeldB_iff.mp (by decide +kernel)
theorem w_applies : (headSpec (Jvm.Cond.code x code maxLocals ret :: tables_1) room_1).applies x e0.platform about1 = true :=
  (Spec.applies_iff w_frames).mpr ⟨w_running, w_runnable, w_alone, w_named, w_hears, w_ripe, w_room, w_tables⟩
theorem atStart : AtStart classFile x code maxLocals ret World_1 tables_1 room_1 Calls_1 rest_1 Pre_1 launch0 p0 e0 about1 theMethod args0 below0 :=
  ⟨lists_1, trivial, launch0.admits_env _ _ _, launch0.least_env, fairChoices_fair.cas, fairChoices_fair.clock, w_frames, w_args, w_heap, w_applies, ⟨w_consts, trivial⟩, w_rest, w_case⟩
end start1
theorem witness_1 : WitnessClaimed_1 := ⟨start1.p0, start1.e0, start1.about1, start1.theMethod, start1.args0, start1.below0, start1.atStart⟩
end Jvm.Pilot.@@N@@
