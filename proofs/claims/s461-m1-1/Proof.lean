import JvmDerived
import JvmDerived.Pilot.@@N@@Statement
import JvmDerived.Pilot.@@N@@Code
set_option linter.unusedVariables false
set_option linter.unusedSimpArgs false
namespace Jvm.Pilot.@@N@@
open Jvm Jvm.ClassFile Sem Op Lib Jvm.Free Jvm.Stand Jvm.LawKit Jvm.RoadKit Bundle Jvm.Pilot.@@N@@.Jvm.D
section Own
variable {p : Program} {l : Launch} {e : Env} {R : Room} {s : State} {m : MethodId} {args : Array Value} {below : List Frame} {meth : Method} {c : Code} {T T' : State} {locs : List Loc} {cells slots : Nat} {Z : State} {a0 : Array Value} {h : Heap} {P : State → Prop} {pc q : Nat} {Ls : Array Slot} {S : List Value} {g g' : JFrame}
/-- from this state on the run comes to one of which P holds -/
def Go (p : Program) (e : Env) (below : List Frame) (P : State → Prop) (T : State) (g : JFrame) : Prop := ∃ n, Steps p.tables e below (T.setTop g) n ∧ P n
theorem Go.by_ (k : ∀ t, Steps p.tables e below (T'.setTop g') t → Steps p.tables e below (T.setTop g) t) (h : Go p e below P T' g') : Go p e below P T g := by
  obtain ⟨n, a, b⟩ := h; exact ⟨n, k n a, b⟩
theorem Go.tr (k : Steps p.tables e below (T.setTop g) (T'.setTop g')) (h : Go p e below P T' g') : Go p e below P T g := by
  obtain ⟨n, a, b⟩ := h; exact ⟨n, k.trans a, b⟩
theorem g_join (h : Go p e below P T g) (k : Go p e below P T g → Go p e below P T' g') : Go p e below P T' g' := k h
/-- what the whole body knows of its method -/
def Kt (p : Program) (Z s : State) (m : MethodId) (meth : Method) (c : Code) (y : MethodName) (bytes : ByteArray) (maxL : Nat) (ret : Option FieldType) : Prop :=
  p.tables.exec = Jvm.exec ∧ Z.Warmed39 s.vm ∧ c.code = bytes ∧ c.maxLocals = maxL ∧ s.vm.findClass y.cls = some m.cls ∧ meth.sig.returnType = ret ∧ meth.locks = false ∧ meth.name = y.name ∧ s.methodNamed? y = some m
variable {y : MethodName} {bytes : ByteArray} {maxL : Nat} {ret : Option FieldType}
theorem Kt.x (K : Kt p Z s m meth c y bytes maxL ret) : p.tables.exec = Jvm.exec := K.1
theorem Kt.z (K : Kt p Z s m meth c y bytes maxL ret) : Z.Warmed39 s.vm := K.2.1
theorem Kt.ml (K : Kt p Z s m meth c y bytes maxL ret) : c.maxLocals = maxL := K.2.2.2.1
theorem Kt.own (K : Kt p Z s m meth c y bytes maxL ret) : s.vm.findClass y.cls = some m.cls := K.2.2.2.2.1
theorem Kt.rt (K : Kt p Z s m meth c y bytes maxL ret) : meth.sig.returnType = ret := K.2.2.2.2.2.1
theorem Kt.lk (K : Kt p Z s m meth c y bytes maxL ret) : meth.locks = false := K.2.2.2.2.2.2.1
theorem Kt.nm (K : Kt p Z s m meth c y bytes maxL ret) : meth.name = y.name := K.2.2.2.2.2.2.2.1
theorem Kt.named (K : Kt p Z s m meth c y bytes maxL ret) : s.methodNamed? y = some m := K.2.2.2.2.2.2.2.2
theorem Kt.d (K : Kt p Z s m meth c y bytes maxL ret) {r : Except DecodeError (Instr × Nat)} (h : decode bytes pc = r) : decode c.code pc = r := by rw [K.2.2.1]; exact h
/-- the end of a body -/
def Done (s : State) (below : List Frame) (Q : Option Value → Heap → List Loc → Prop) (kc ks : Nat) (n : State) : Prop :=
  ∃ o, n.status = .running ∧ Ended n below o ∧ ∃ v L, o = .returned v ∧ Q v n.heap L ∧ FrameEnd s o n L kc ks
/-- a body's contract -/
def Mt (l : Launch) (Z : State) (y : MethodName) (bytes : ByteArray) (maxL : Nat) (ret : Option FieldType) (ws : List Jvm.Cond) (rm : Room) (as' : Array Value) (h0 : Heap) (Q : Option Value → Heap → List Loc → Prop) : Prop :=
  MetFree l y (head1 (Jvm.Cond.code y bytes maxL ret :: ws) rm) (fun a U => a = as' ∧ Z.Warmed39 U.vm ∧ U.heap = h0) (fun _ _ _ _ _ => True) (fun _ U o U' => ∃ v L, o = .returned v ∧ Q v U'.heap L ∧ FrameEnd U o U' L rm.cells rm.slots)
theorem g_body {ws : List Jvm.Cond} {rm : Room} {as' : Array Value} {h0 : Heap} {Q : Option Value → Heap → List Loc → Prop} (hpl : plainFor y = true)
    (H : ∀ (p : Program) (e : Env) (s : State) (m : MethodId) (below : List Frame) (meth : Method) (c : Code) (T : State), Kt p Z s m meth c y bytes maxL ret → Stand p l e rm s m as' below meth c T [] 0 0 → T.heap = h0 → Go p e below (Done s below Q rm.cells rm.slots) T (entryFrame m as' maxL)) :
    Mt l Z y bytes maxL ret ws rm as' h0 Q := by
  refine MetFree.of_bodySF hpl hisR ?_
  intro p e s m args below meth c s₁ Bd hml0 hP hK
  obtain ⟨rfl, hZ, hh⟩ := hP
  obtain ⟨n, a, o, b1, b2, b3⟩ := H p e s m below meth c s₁ ⟨Bd.exec, hZ, Bd.bytes, hml0, findClass_of_methodNamed Bd.named, Bd.returns, BodyLoose.notSynchronized Bd, (name_of_methodNamed Bd.named Bd.method).1, Bd.named⟩ (Stand.of_body Bd) (by rw [← hh, Bd.state]; rfl)
  exact ⟨n, o, a, b1, b2, b3⟩
variable {Q : Option Value → Heap → List Loc → Prop} {kc ks : Nat}
theorem g_entry (q : g = g') (h : Go p e below P T g') : Go p e below P T g := q ▸ h
/-! returns -/
theorem g_ret (X : Stand p l e R s m args below meth c T locs cells slots) (K : Kt p Z s m meth c y bytes maxL none) (hd : decode bytes pc = .ok (.return_, 1)) (hc : cells ≤ kc) (hs : slots ≤ ks) (hQ : Q none T.heap locs) : Go p e below (Done s below Q kc ks) T (mkF m pc Ls []) := by
  obtain ⟨fs, hr, hrun, hended, hW, hsame⟩ := X.leave (v := none) (fun _ => rfl) K.lk
  exact ⟨_, X.returnOut K.x K.rt (K.d hd) hr, _, hrun, hended, _, _, rfl, hQ, ⟨_, rfl⟩, hW, hsame.mono hc hs⟩
theorem g_iret (X : Stand p l e R s m args below meth c T locs cells slots) (K : Kt p Z s m meth c y bytes maxL (some .int)) {z : Int32} (hd : decode bytes pc = .ok (.ireturn, 1)) (hc : cells ≤ kc) (hs : slots ≤ ks) (hQ : Q (some (.int z)) T.heap locs) : Go p e below (Done s below Q kc ks) T (mkF m pc Ls (.int z :: S)) := by
  obtain ⟨fs, hr, hrun, hended, hW, hsame⟩ := X.leave (v := some (.int z)) (fun h => by rw [K.rt] at h; cases h) K.lk
  exact ⟨_, retOut X K.x K.rt rfl (Or.inl ⟨rfl, Or.inl rfl, z, rfl⟩) (K.d hd) hr, _, hrun, hended, _, _, rfl, hQ, ⟨_, rfl⟩, hW, hsame.mono hc hs⟩
theorem g_nret {t : FieldType} (X : Stand p l e R s m args below meth c T locs cells slots) (K : Kt p Z s m meth c y bytes maxL (some t)) (ht : t = .boolean ∨ t = .byte ∨ t = .char ∨ t = .short) {z z' : Int32} (hn : nar t z = z') (hd : decode bytes pc = .ok (.ireturn, 1)) (hc : cells ≤ kc) (hs : slots ≤ ks) (hQ : Q (some (.int z')) T.heap locs) : Go p e below (Done s below Q kc ks) T (mkF m pc Ls (.int z :: S)) := by
  subst hn
  obtain ⟨fs, hr, hrun, hended, hW, hsame⟩ := X.leave (v := some (.int (nar t z))) (fun h => by rw [K.rt] at h; cases h) K.lk
  exact ⟨_, retN X K.x K.rt ht (K.d hd) hr, _, hrun, hended, _, _, rfl, hQ, ⟨_, rfl⟩, hW, hsame.mono hc hs⟩
theorem g_lret (X : Stand p l e R s m args below meth c T locs cells slots) (K : Kt p Z s m meth c y bytes maxL (some .long)) {z : Int64} (hd : decode bytes pc = .ok (.lreturn, 1)) (hc : cells ≤ kc) (hs : slots ≤ ks) (hQ : Q (some (.long z)) T.heap locs) : Go p e below (Done s below Q kc ks) T (mkF m pc Ls (.long z :: S)) := by
  obtain ⟨fs, hr, hrun, hended, hW, hsame⟩ := X.leave (v := some (.long z)) (fun h => by rw [K.rt] at h; cases h) K.lk
  exact ⟨_, retOut X K.x K.rt rfl (Or.inr (Or.inl ⟨rfl, rfl, z, rfl⟩)) (K.d hd) hr, _, hrun, hended, _, _, rfl, hQ, ⟨_, rfl⟩, hW, hsame.mono hc hs⟩
theorem g_aret {t : FieldType} {w : Value} (X : Stand p l e R s m args below meth c T locs cells slots) (K : Kt p Z s m meth c y bytes maxL (some t)) (ht : t.isReference = true) (hw : w.isRef = true) (hn : narrow t w = w) (hd : decode bytes pc = .ok (.areturn, 1)) (hc : cells ≤ kc) (hs : slots ≤ ks) (hQ : Q (some w) T.heap locs) : Go p e below (Done s below Q kc ks) T (mkF m pc Ls (w :: S)) := by
  obtain ⟨fs, hr, hrun, hended, hW, hsame⟩ := X.leave (v := some w) (fun h => by rw [K.rt] at h; cases h) K.lk
  exact ⟨_, retOut X K.x K.rt hn (Or.inr (Or.inr (Or.inr (Or.inr ⟨rfl, ht, hw⟩)))) (K.d hd) hr, _, hrun, hended, _, _, rfl, hQ, ⟨_, rfl⟩, hW, hsame.mono hc hs⟩
/-! plain steps -/
section Plain
theorem g_iloadN (X : Stand p l e R s m args below meth c T locs cells slots) (K : Kt p Z s m meth c y bytes maxL ret) {k : Fin 4} {v : Int32} (hd : decode bytes pc = .ok (.iload_n k, 1)) (hl : Ls[k.val]? = some (.val (.int v))) (hq : pc + 1 = q) (h : Go p e below P T (mkF m q Ls (.int v :: S))) : Go p e below P T (mkF m pc Ls S) := by
  subst hq; exact Go.by_ (fun t k => XS.iloadN X.here K.x rfl (K.d hd) hl k) h
theorem g_iload (X : Stand p l e R s m args below meth c T locs cells slots) (K : Kt p Z s m meth c y bytes maxL ret) {k : Nat} {v : Int32} (hd : decode bytes pc = .ok (.iload k, 2)) (hl : Ls[k]? = some (.val (.int v))) (hq : pc + 2 = q) (h : Go p e below P T (mkF m q Ls (.int v :: S))) : Go p e below P T (mkF m pc Ls S) := by
  subst hq; exact Go.by_ (fun t k => XS.iload X.here K.x rfl (K.d hd) hl k) h
theorem g_lloadN (X : Stand p l e R s m args below meth c T locs cells slots) (K : Kt p Z s m meth c y bytes maxL ret) {k : Fin 4} {v : Int64} (hd : decode bytes pc = .ok (.lload_n k, 1)) (hl : Ls[k.val]? = some (.val (.long v))) (hq : pc + 1 = q) (h : Go p e below P T (mkF m q Ls (.long v :: S))) : Go p e below P T (mkF m pc Ls S) := by
  subst hq; exact Go.by_ (fun t k => XS.lloadN X.here K.x rfl (K.d hd) hl k) h
theorem g_lload (X : Stand p l e R s m args below meth c T locs cells slots) (K : Kt p Z s m meth c y bytes maxL ret) {k : Nat} {v : Int64} (hd : decode bytes pc = .ok (.lload k, 2)) (hl : Ls[k]? = some (.val (.long v))) (hq : pc + 2 = q) (h : Go p e below P T (mkF m q Ls (.long v :: S))) : Go p e below P T (mkF m pc Ls S) := by
  subst hq; exact Go.by_ (fun t k => XS.lload X.here K.x rfl (K.d hd) hl k) h
theorem g_aloadN (X : Stand p l e R s m args below meth c T locs cells slots) (K : Kt p Z s m meth c y bytes maxL ret) {k : Fin 4} {v : Value} (hd : decode bytes pc = .ok (.aload_n k, 1)) (hl : Ls[k.val]? = some (.val v)) (hv : v.isRef = true) (hq : pc + 1 = q) (h : Go p e below P T (mkF m q Ls (v :: S))) : Go p e below P T (mkF m pc Ls S) := by
  subst hq; exact Go.by_ (fun t k => XS.aloadN X.here K.x rfl (K.d hd) hl hv k) h
theorem g_aload (X : Stand p l e R s m args below meth c T locs cells slots) (K : Kt p Z s m meth c y bytes maxL ret) {k : Nat} {v : Value} (hd : decode bytes pc = .ok (.aload k, 2)) (hl : Ls[k]? = some (.val v)) (hv : v.isRef = true) (hq : pc + 2 = q) (h : Go p e below P T (mkF m q Ls (v :: S))) : Go p e below P T (mkF m pc Ls S) := by
  subst hq; exact Go.by_ (fun t k => XS.aload X.here K.x rfl (K.d hd) hl hv k) h
theorem g_istoreN (X : Stand p l e R s m args below meth c T locs cells slots) (K : Kt p Z s m meth c y bytes maxL ret) {k : Fin 4} {v : Int32} {L' : Array Slot} (hd : decode bytes pc = .ok (.istore_n k, 1)) (hl : storeLocals Ls k.val (.int v) = some L') (hq : pc + 1 = q) (h : Go p e below P T (mkF m q L' S)) : Go p e below P T (mkF m pc Ls (.int v :: S)) := by
  subst hq; exact Go.by_ (fun t k => XS.istoreN X.here K.x rfl (K.d hd) rfl hl k) h
theorem g_istore (X : Stand p l e R s m args below meth c T locs cells slots) (K : Kt p Z s m meth c y bytes maxL ret) {k : Nat} {v : Int32} {L' : Array Slot} (hd : decode bytes pc = .ok (.istore k, 2)) (hl : storeLocals Ls k (.int v) = some L') (hq : pc + 2 = q) (h : Go p e below P T (mkF m q L' S)) : Go p e below P T (mkF m pc Ls (.int v :: S)) := by
  subst hq; exact Go.by_ (fun t k => XS.istore X.here K.x rfl (K.d hd) rfl hl k) h
theorem g_lstoreN (X : Stand p l e R s m args below meth c T locs cells slots) (K : Kt p Z s m meth c y bytes maxL ret) {k : Fin 4} {v : Int64} {L' : Array Slot} (hd : decode bytes pc = .ok (.lstore_n k, 1)) (hl : storeLocals Ls k.val (.long v) = some L') (hq : pc + 1 = q) (h : Go p e below P T (mkF m q L' S)) : Go p e below P T (mkF m pc Ls (.long v :: S)) := by
  subst hq; exact Go.by_ (fun t k => XS.lstoreN X.here K.x rfl (K.d hd) rfl hl k) h
theorem g_lstore (X : Stand p l e R s m args below meth c T locs cells slots) (K : Kt p Z s m meth c y bytes maxL ret) {k : Nat} {v : Int64} {L' : Array Slot} (hd : decode bytes pc = .ok (.lstore k, 2)) (hl : storeLocals Ls k (.long v) = some L') (hq : pc + 2 = q) (h : Go p e below P T (mkF m q L' S)) : Go p e below P T (mkF m pc Ls (.long v :: S)) := by
  subst hq; exact Go.by_ (fun t k => XS.lstore X.here K.x rfl (K.d hd) rfl hl k) h
theorem g_astoreN (X : Stand p l e R s m args below meth c T locs cells slots) (K : Kt p Z s m meth c y bytes maxL ret) {k : Fin 4} {v : Value} {L' : Array Slot} (hd : decode bytes pc = .ok (.astore_n k, 1)) (hv : v.isRef = true) (hl : storeLocals Ls k.val v = some L') (hq : pc + 1 = q) (h : Go p e below P T (mkF m q L' S)) : Go p e below P T (mkF m pc Ls (v :: S)) := by
  subst hq; exact Go.by_ (fun t k => XS.astoreN X.here K.x rfl (K.d hd) rfl hv hl k) h
theorem g_astore (X : Stand p l e R s m args below meth c T locs cells slots) (K : Kt p Z s m meth c y bytes maxL ret) {k : Nat} {v : Value} {L' : Array Slot} (hd : decode bytes pc = .ok (.astore k, 2)) (hv : v.isRef = true) (hl : storeLocals Ls k v = some L') (hq : pc + 2 = q) (h : Go p e below P T (mkF m q L' S)) : Go p e below P T (mkF m pc Ls (v :: S)) := by
  subst hq; exact Go.by_ (fun t k => XS.astore X.here K.x rfl (K.d hd) rfl hv hl k) h
theorem g_iconst (X : Stand p l e R s m args below meth c T locs cells slots) (K : Kt p Z s m meth c y bytes maxL ret) {i : Int} {v : Int32} (hd : decode bytes pc = .ok (.iconst i, 1)) (hv : Int32.ofInt i = v) (hq : pc + 1 = q) (h : Go p e below P T (mkF m q Ls (.int v :: S))) : Go p e below P T (mkF m pc Ls S) := by
  subst hq hv; exact Go.by_ (fun t k => XS.iconst X.here K.x rfl (K.d hd) k) h
theorem g_bipush (X : Stand p l e R s m args below meth c T locs cells slots) (K : Kt p Z s m meth c y bytes maxL ret) {i : Int} {v : Int32} (hd : decode bytes pc = .ok (.bipush i, 2)) (hv : (Int8.ofInt i).toInt32 = v) (hq : pc + 2 = q) (h : Go p e below P T (mkF m q Ls (.int v :: S))) : Go p e below P T (mkF m pc Ls S) := by
  subst hq hv; exact Go.by_ (fun t k => XS.bipush X.here K.x rfl (K.d hd) k) h
theorem g_sipush (X : Stand p l e R s m args below meth c T locs cells slots) (K : Kt p Z s m meth c y bytes maxL ret) {i : Int} {v : Int32} (hd : decode bytes pc = .ok (.sipush i, 3)) (hv : (Int16.ofInt i).toInt32 = v) (hq : pc + 3 = q) (h : Go p e below P T (mkF m q Ls (.int v :: S))) : Go p e below P T (mkF m pc Ls S) := by
  subst hq hv; exact Go.by_ (fun t k => XS.sipush X.here K.x rfl (K.d hd) k) h
theorem g_null (X : Stand p l e R s m args below meth c T locs cells slots) (K : Kt p Z s m meth c y bytes maxL ret) (hd : decode bytes pc = .ok (.aconst_null, 1)) (hq : pc + 1 = q) (h : Go p e below P T (mkF m q Ls (.null :: S))) : Go p e below P T (mkF m pc Ls S) := by
  subst hq; exact Go.by_ (fun t k => XS.aconstNull X.here K.x rfl (K.d hd) k) h
theorem g_iadd (X : Stand p l e R s m args below meth c T locs cells slots) (K : Kt p Z s m meth c y bytes maxL ret) {x y z : Int32} (hd : decode bytes pc = .ok (.iadd, 1)) (hz : x + y = z) (hq : pc + 1 = q) (h : Go p e below P T (mkF m q Ls (.int z :: S))) : Go p e below P T (mkF m pc Ls (.int y :: .int x :: S)) := by
  subst hq hz; exact Go.by_ (fun t k => XS.iadd X.here K.x rfl (K.d hd) rfl k) h
theorem g_isub (X : Stand p l e R s m args below meth c T locs cells slots) (K : Kt p Z s m meth c y bytes maxL ret) {x y z : Int32} (hd : decode bytes pc = .ok (.isub, 1)) (hz : x - y = z) (hq : pc + 1 = q) (h : Go p e below P T (mkF m q Ls (.int z :: S))) : Go p e below P T (mkF m pc Ls (.int y :: .int x :: S)) := by
  subst hq hz; exact Go.by_ (fun t k => XS.isub X.here K.x rfl (K.d hd) rfl k) h
theorem g_imul (X : Stand p l e R s m args below meth c T locs cells slots) (K : Kt p Z s m meth c y bytes maxL ret) {x y z : Int32} (hd : decode bytes pc = .ok (.imul, 1)) (hz : x * y = z) (hq : pc + 1 = q) (h : Go p e below P T (mkF m q Ls (.int z :: S))) : Go p e below P T (mkF m pc Ls (.int y :: .int x :: S)) := by
  subst hq hz; exact Go.by_ (fun t k => XS.imul X.here K.x rfl (K.d hd) rfl k) h
theorem g_iand (X : Stand p l e R s m args below meth c T locs cells slots) (K : Kt p Z s m meth c y bytes maxL ret) {x y z : Int32} (hd : decode bytes pc = .ok (.iand, 1)) (hz : x &&& y = z) (hq : pc + 1 = q) (h : Go p e below P T (mkF m q Ls (.int z :: S))) : Go p e below P T (mkF m pc Ls (.int y :: .int x :: S)) := by
  subst hq hz; exact Go.by_ (fun t k => XS.iand X.here K.x rfl (K.d hd) rfl k) h
theorem g_ior (X : Stand p l e R s m args below meth c T locs cells slots) (K : Kt p Z s m meth c y bytes maxL ret) {x y z : Int32} (hd : decode bytes pc = .ok (.ior, 1)) (hz : x ||| y = z) (hq : pc + 1 = q) (h : Go p e below P T (mkF m q Ls (.int z :: S))) : Go p e below P T (mkF m pc Ls (.int y :: .int x :: S)) := by
  subst hq hz; exact Go.by_ (fun t k => XS.ior X.here K.x rfl (K.d hd) rfl k) h
theorem g_ixor (X : Stand p l e R s m args below meth c T locs cells slots) (K : Kt p Z s m meth c y bytes maxL ret) {x y z : Int32} (hd : decode bytes pc = .ok (.ixor, 1)) (hz : x ^^^ y = z) (hq : pc + 1 = q) (h : Go p e below P T (mkF m q Ls (.int z :: S))) : Go p e below P T (mkF m pc Ls (.int y :: .int x :: S)) := by
  subst hq hz; exact Go.by_ (fun t k => XS.ixor X.here K.x rfl (K.d hd) rfl k) h
theorem g_ishl (X : Stand p l e R s m args below meth c T locs cells slots) (K : Kt p Z s m meth c y bytes maxL ret) {x y z : Int32} (hd : decode bytes pc = .ok (.ishl, 1)) (hz : x <<< (y &&& 31) = z) (hq : pc + 1 = q) (h : Go p e below P T (mkF m q Ls (.int z :: S))) : Go p e below P T (mkF m pc Ls (.int y :: .int x :: S)) := by
  subst hq hz; exact Go.by_ (fun t k => XS.ishl X.here K.x rfl (K.d hd) rfl k) h
theorem g_ishr (X : Stand p l e R s m args below meth c T locs cells slots) (K : Kt p Z s m meth c y bytes maxL ret) {x y z : Int32} (hd : decode bytes pc = .ok (.ishr, 1)) (hz : x >>> (y &&& 31) = z) (hq : pc + 1 = q) (h : Go p e below P T (mkF m q Ls (.int z :: S))) : Go p e below P T (mkF m pc Ls (.int y :: .int x :: S)) := by
  subst hq hz; exact Go.by_ (fun t k => XS.ishr X.here K.x rfl (K.d hd) rfl k) h
theorem g_iushr (X : Stand p l e R s m args below meth c T locs cells slots) (K : Kt p Z s m meth c y bytes maxL ret) {x y z : Int32} (hd : decode bytes pc = .ok (.iushr, 1)) (hz : (x.toUInt32 >>> (y &&& 31).toUInt32).toInt32 = z) (hq : pc + 1 = q) (h : Go p e below P T (mkF m q Ls (.int z :: S))) : Go p e below P T (mkF m pc Ls (.int y :: .int x :: S)) := by
  subst hq hz; exact Go.by_ (fun t k => XS.iushr X.here K.x rfl (K.d hd) rfl k) h
theorem g_irem (X : Stand p l e R s m args below meth c T locs cells slots) (K : Kt p Z s m meth c y bytes maxL ret) {x y z : Int32} (hd : decode bytes pc = .ok (.irem, 1)) (hy : y ≠ 0) (hz : x % y = z) (hq : pc + 1 = q) (h : Go p e below P T (mkF m q Ls (.int z :: S))) : Go p e below P T (mkF m pc Ls (.int y :: .int x :: S)) := by
  subst hq hz; exact Go.by_ (fun t k => iremM X K.x rfl (K.d hd) rfl hy k) h
theorem g_idiv (X : Stand p l e R s m args below meth c T locs cells slots) (K : Kt p Z s m meth c y bytes maxL ret) {x y z : Int32} (hd : decode bytes pc = .ok (.idiv, 1)) (hy : y ≠ 0) (hz : x / y = z) (hq : pc + 1 = q) (h : Go p e below P T (mkF m q Ls (.int z :: S))) : Go p e below P T (mkF m pc Ls (.int y :: .int x :: S)) := by
  subst hq hz; exact Go.by_ (fun t k => XS.idiv X.here K.x rfl (K.d hd) rfl hy k) h
theorem g_ineg (X : Stand p l e R s m args below meth c T locs cells slots) (K : Kt p Z s m meth c y bytes maxL ret) {x z : Int32} (hd : decode bytes pc = .ok (.ineg, 1)) (hz : -x = z) (hq : pc + 1 = q) (h : Go p e below P T (mkF m q Ls (.int z :: S))) : Go p e below P T (mkF m pc Ls (.int x :: S)) := by
  subst hq hz; exact Go.by_ (fun t k => XS.ineg X.here K.x rfl (K.d hd) rfl k) h
theorem g_i2b (X : Stand p l e R s m args below meth c T locs cells slots) (K : Kt p Z s m meth c y bytes maxL ret) {x z : Int32} (hd : decode bytes pc = .ok (.i2b, 1)) (hz : x.toInt8.toInt32 = z) (hq : pc + 1 = q) (h : Go p e below P T (mkF m q Ls (.int z :: S))) : Go p e below P T (mkF m pc Ls (.int x :: S)) := by
  subst hq hz; exact Go.by_ (fun t k => XS.i2b X.here K.x rfl (K.d hd) rfl k) h
theorem g_i2c (X : Stand p l e R s m args below meth c T locs cells slots) (K : Kt p Z s m meth c y bytes maxL ret) {x z : Int32} (hd : decode bytes pc = .ok (.i2c, 1)) (hz : x.toUInt32.toUInt16.toUInt32.toInt32 = z) (hq : pc + 1 = q) (h : Go p e below P T (mkF m q Ls (.int z :: S))) : Go p e below P T (mkF m pc Ls (.int x :: S)) := by
  subst hq hz; exact Go.by_ (fun t k => XS.i2c X.here K.x rfl (K.d hd) rfl k) h
theorem g_i2l (X : Stand p l e R s m args below meth c T locs cells slots) (K : Kt p Z s m meth c y bytes maxL ret) {x : Int32} {z : Int64} (hd : decode bytes pc = .ok (.i2l, 1)) (hz : x.toInt64 = z) (hq : pc + 1 = q) (h : Go p e below P T (mkF m q Ls (.long z :: S))) : Go p e below P T (mkF m pc Ls (.int x :: S)) := by
  subst hq hz; exact Go.by_ (fun t k => XS.i2l X.here K.x rfl (K.d hd) rfl k) h
theorem g_lconst (X : Stand p l e R s m args below meth c T locs cells slots) (K : Kt p Z s m meth c y bytes maxL ret) {k : Fin 2} {v : Int64} (hd : decode bytes pc = .ok (.lconst k, 1)) (hv : Int64.ofInt k.val = v) (hq : pc + 1 = q) (h : Go p e below P T (mkF m q Ls (.long v :: S))) : Go p e below P T (mkF m pc Ls S) := by
  subst hq hv; exact Go.by_ (fun t k => XS.lconst X.here K.x rfl (K.d hd) k) h
theorem g_lsub (X : Stand p l e R s m args below meth c T locs cells slots) (K : Kt p Z s m meth c y bytes maxL ret) {x y z : Int64} (hd : decode bytes pc = .ok (.lsub, 1)) (hz : x - y = z) (hq : pc + 1 = q) (h : Go p e below P T (mkF m q Ls (.long z :: S))) : Go p e below P T (mkF m pc Ls (.long y :: .long x :: S)) := by
  subst hq hz; exact Go.by_ (fun t k => XS.lsub X.here K.x rfl (K.d hd) rfl k) h
theorem g_lshl (X : Stand p l e R s m args below meth c T locs cells slots) (K : Kt p Z s m meth c y bytes maxL ret) {x z : Int64} {y : Int32} (hd : decode bytes pc = .ok (.lshl, 1)) (hz : x <<< (y &&& 0x3f).toInt64 = z) (hq : pc + 1 = q) (h : Go p e below P T (mkF m q Ls (.long z :: S))) : Go p e below P T (mkF m pc Ls (.int y :: .long x :: S)) := by
  subst hq hz; exact Go.by_ (fun t k => XS.lshl X.here K.x rfl (K.d hd) rfl k) h
theorem g_lcmp (X : Stand p l e R s m args below meth c T locs cells slots) (K : Kt p Z s m meth c y bytes maxL ret) {x y : Int64} {z : Int32} (hd : decode bytes pc = .ok (.lcmp, 1)) (hz : lcmpW x y = z) (hq : pc + 1 = q) (h : Go p e below P T (mkF m q Ls (.int z :: S))) : Go p e below P T (mkF m pc Ls (.long y :: .long x :: S)) := by
  subst hq hz; exact Go.by_ (fun t k => XS.lcmp X.here K.x rfl (K.d hd) rfl k) h
theorem g_iinc (X : Stand p l e R s m args below meth c T locs cells slots) (K : Kt p Z s m meth c y bytes maxL ret) {k : Nat} {cst : Int} {x z : Int32} {L' : Array Slot} (hd : decode bytes pc = .ok (.iinc k cst, 3)) (hl : Ls[k]? = some (.val (.int x))) (hz : x + Int32.ofInt cst = z) (hl' : storeLocals Ls k (.int z) = some L') (hq : pc + 3 = q) (h : Go p e below P T (mkF m q L' S)) : Go p e below P T (mkF m pc Ls S) := by
  subst hq hz; exact Go.by_ (fun t k => XS.iinc X.here K.x rfl (K.d hd) hl hl' k) h
theorem g_dup (X : Stand p l e R s m args below meth c T locs cells slots) (K : Kt p Z s m meth c y bytes maxL ret) {x : Value} (hd : decode bytes pc = .ok (.dup, 1)) (hc : x.category = 1) (hq : pc + 1 = q) (h : Go p e below P T (mkF m q Ls (x :: x :: S))) : Go p e below P T (mkF m pc Ls (x :: S)) := by
  subst hq; exact Go.by_ (fun t k => XS.dup X.here K.x rfl (K.d hd) rfl hc k) h
theorem g_dupX1 (X : Stand p l e R s m args below meth c T locs cells slots) (K : Kt p Z s m meth c y bytes maxL ret) {x y : Value} (hd : decode bytes pc = .ok (.dup_x1, 1)) (hc : x.category = 1) (hc' : y.category = 1) (hq : pc + 1 = q) (h : Go p e below P T (mkF m q Ls (x :: y :: x :: S))) : Go p e below P T (mkF m pc Ls (x :: y :: S)) := by
  subst hq; exact Go.by_ (fun t k => XS.dupX1 X.here K.x rfl (K.d hd) rfl hc hc' k) h
theorem g_dup2 (X : Stand p l e R s m args below meth c T locs cells slots) (K : Kt p Z s m meth c y bytes maxL ret) {x y : Value} (hd : decode bytes pc = .ok (.dup2, 1)) (hc : x.category = 1) (hc' : y.category = 1) (hq : pc + 1 = q) (h : Go p e below P T (mkF m q Ls (x :: y :: x :: y :: S))) : Go p e below P T (mkF m pc Ls (x :: y :: S)) := by
  subst hq; exact Go.by_ (fun t k => XT.dup2 X.here K.x rfl (K.d hd) rfl hc hc' k) h
theorem g_pop (X : Stand p l e R s m args below meth c T locs cells slots) (K : Kt p Z s m meth c y bytes maxL ret) {x : Value} (hd : decode bytes pc = .ok (.pop, 1)) (hc : x.category = 1) (hq : pc + 1 = q) (h : Go p e below P T (mkF m q Ls S)) : Go p e below P T (mkF m pc Ls (x :: S)) := by
  subst hq; exact Go.by_ (fun t k => XS.pop X.here K.x rfl (K.d hd) rfl hc k) h
theorem g_goto (X : Stand p l e R s m args below meth c T locs cells slots) (K : Kt p Z s m meth c y bytes maxL ret) {o : Int} (hd : decode bytes pc = .ok (.goto o, 3)) (ho : 0 ≤ (pc : Int) + o) (hq : ((pc : Int) + o).toNat = q) (h : Go p e below P T (mkF m q Ls S)) : Go p e below P T (mkF m pc Ls S) :=
  Go.by_ (fun t k => XS.goto X.here K.x rfl rfl (K.d hd) ho hq k) h
theorem g_ifY (X : Stand p l e R s m args below meth c T locs cells slots) (K : Kt p Z s m meth c y bytes maxL ret) {cd : ClassFile.Cond} {x : Int32} {o : Int} (hd : decode bytes pc = .ok (.ifCond cd o, 3)) (hc : if_icmp.holds cd x 0 = true) (ho : 0 ≤ (pc : Int) + o) (hq : ((pc : Int) + o).toNat = q) (h : Go p e below P T (mkF m q Ls S)) : Go p e below P T (mkF m pc Ls (.int x :: S)) :=
  Go.by_ (fun t k => XS.ifYes X.here K.x rfl rfl (K.d hd) rfl ((if0 _ _).trans hc) ho hq k) h
theorem g_ifN (X : Stand p l e R s m args below meth c T locs cells slots) (K : Kt p Z s m meth c y bytes maxL ret) {cd : ClassFile.Cond} {x : Int32} {o : Int} (hd : decode bytes pc = .ok (.ifCond cd o, 3)) (hc : if_icmp.holds cd x 0 = false) (hq : pc + 3 = q) (h : Go p e below P T (mkF m q Ls S)) : Go p e below P T (mkF m pc Ls (.int x :: S)) := by
  subst hq; exact Go.by_ (fun t k => XS.ifNo X.here K.x rfl (K.d hd) rfl ((if0 _ _).trans hc) k) h
theorem g_icY (X : Stand p l e R s m args below meth c T locs cells slots) (K : Kt p Z s m meth c y bytes maxL ret) {cd : ClassFile.Cond} {x y : Int32} {o : Int} (hd : decode bytes pc = .ok (.if_icmp cd o, 3)) (hc : if_icmp.holds cd x y = true) (ho : 0 ≤ (pc : Int) + o) (hq : ((pc : Int) + o).toNat = q) (h : Go p e below P T (mkF m q Ls S)) : Go p e below P T (mkF m pc Ls (.int y :: .int x :: S)) :=
  Go.by_ (fun t k => XS.icmpYes X.here K.x rfl rfl (K.d hd) rfl hc ho hq k) h
theorem g_icN (X : Stand p l e R s m args below meth c T locs cells slots) (K : Kt p Z s m meth c y bytes maxL ret) {cd : ClassFile.Cond} {x y : Int32} {o : Int} (hd : decode bytes pc = .ok (.if_icmp cd o, 3)) (hc : if_icmp.holds cd x y = false) (hq : pc + 3 = q) (h : Go p e below P T (mkF m q Ls S)) : Go p e below P T (mkF m pc Ls (.int y :: .int x :: S)) := by
  subst hq; exact Go.by_ (fun t k => XS.icmpNo X.here K.x rfl (K.d hd) rfl hc k) h
theorem g_ac (X : Stand p l e R s m args below meth c T locs cells slots) (K : Kt p Z s m meth c y bytes maxL ret) {cd : ACond} {x y : Value} {o : Int} {same : Bool} (hd : decode bytes pc = .ok (.if_acmp cd o, 3)) (h1 : x.isRef = true) (h2 : y.isRef = true) (hs : decide (x = y) = same) (ho : 0 ≤ (pc : Int) + o) (hq : q = if acV cd same = true then ((pc : Int) + o).toNat else pc + 3) (h : Go p e below P T (mkF m q Ls S)) : Go p e below P T (mkF m pc Ls (y :: x :: S)) :=
  Go.by_ (fun t k => acmp X K.x rfl h1 h2 rfl (K.d hd) rfl hs ho hq k) h
theorem g_nullY (X : Stand p l e R s m args below meth c T locs cells slots) (K : Kt p Z s m meth c y bytes maxL ret) {o : Int} (hd : decode bytes pc = .ok (.ifnull o, 3)) (ho : 0 ≤ (pc : Int) + o) (hq : ((pc : Int) + o).toNat = q) (h : Go p e below P T (mkF m q Ls S)) : Go p e below P T (mkF m pc Ls (.null :: S)) :=
  Go.by_ (fun t k => XS.ifnullYes X.here K.x rfl rfl (K.d hd) rfl ho hq k) h
theorem g_nullN (X : Stand p l e R s m args below meth c T locs cells slots) (K : Kt p Z s m meth c y bytes maxL ret) {o : Int} {b : Addr} (hd : decode bytes pc = .ok (.ifnull o, 3)) (hq : pc + 3 = q) (h : Go p e below P T (mkF m q Ls S)) : Go p e below P T (mkF m pc Ls (.ref b :: S)) := by
  subst hq; exact Go.by_ (fun t k => XS.ifnullNo X.here K.x rfl (K.d hd) rfl k) h
theorem g_nonnullY (X : Stand p l e R s m args below meth c T locs cells slots) (K : Kt p Z s m meth c y bytes maxL ret) {o : Int} {b : Addr} (hd : decode bytes pc = .ok (.ifnonnull o, 3)) (ho : 0 ≤ (pc : Int) + o) (hq : ((pc : Int) + o).toNat = q) (h : Go p e below P T (mkF m q Ls S)) : Go p e below P T (mkF m pc Ls (.ref b :: S)) :=
  Go.by_ (fun t k => XS.ifnonnullYes X.here K.x rfl rfl (K.d hd) rfl ho hq k) h
theorem g_nonnullN (X : Stand p l e R s m args below meth c T locs cells slots) (K : Kt p Z s m meth c y bytes maxL ret) {o : Int} (hd : decode bytes pc = .ok (.ifnonnull o, 3)) (hq : pc + 3 = q) (h : Go p e below P T (mkF m q Ls S)) : Go p e below P T (mkF m pc Ls (.null :: S)) := by
  subst hq; exact Go.by_ (fun t k => XS.ifnonnullNo X.here K.x rfl (K.d hd) rfl k) h
theorem g_ldc (X : Stand p l e R s m args below meth c T locs cells slots) (K : Kt p Z s m meth c y bytes maxL ret) {index : Nat} {v : Int32} (w : (Jvm.Cond.constant y.cls index v).before a0 Z = true) (hd : decode bytes pc = .ok (.ldc index, 2)) (hq : pc + 2 = q) (h : Go p e below P T (mkF m q Ls (.int v :: S))) : Go p e below P T (mkF m pc Ls S) := by
  subst hq; exact Go.by_ (fun t k => X.ldcInt K.x K.own (mvT K.z w) (g := mkF m pc Ls S) rfl (K.d hd) _ k) h
theorem g_ldc2 (X : Stand p l e R s m args below meth c T locs cells slots) (K : Kt p Z s m meth c y bytes maxL ret) {index : Nat} {v : Int64} (w : (Jvm.Cond.constantLong y.cls index v).before a0 Z = true) (hd : decode bytes pc = .ok (.ldc2_w index, 3)) (hq : pc + 3 = q) (h : Go p e below P T (mkF m q Ls (.long v :: S))) : Go p e below P T (mkF m pc Ls S) := by
  subst hq; exact Go.by_ (fun t k => X.ldc2Long K.x K.own (mvT K.z w) (g := mkF m pc Ls S) rfl (K.d hd) _ k) h
theorem g_tswIn (X : Stand p l e R s m args below meth c T locs cells slots) (K : Kt p Z s m meth c y bytes maxL ret) {dflt low high : Int} {offs : Array Int} {len : Nat} {o : Int} {i : Int32} (hd : decode bytes pc = .ok (.tableswitch dflt low high offs, len)) (hin : ¬ (i.toInt < low ∨ i.toInt > high)) (hoff : offs[(i.toInt - low).toNat]? = some o) (ho : 0 ≤ (pc : Int) + o) (hq : ((pc : Int) + o).toNat = q) (h : Go p e below P T (mkF m q Ls S)) : Go p e below P T (mkF m pc Ls (.int i :: S)) :=
  Go.by_ (fun t k => XS.tswIn X.here K.x rfl rfl (K.d hd) rfl hin hoff ho hq k) h
theorem g_tswOut (X : Stand p l e R s m args below meth c T locs cells slots) (K : Kt p Z s m meth c y bytes maxL ret) {dflt low high : Int} {offs : Array Int} {len : Nat} {i : Int32} (hd : decode bytes pc = .ok (.tableswitch dflt low high offs, len)) (hout : i.toInt < low ∨ i.toInt > high) (ho : 0 ≤ (pc : Int) + dflt) (hq : ((pc : Int) + dflt).toNat = q) (h : Go p e below P T (mkF m q Ls S)) : Go p e below P T (mkF m pc Ls (.int i :: S)) :=
  Go.by_ (fun t k => XS.tswOut X.here K.x rfl rfl (K.d hd) rfl hout ho hq k) h
theorem g_dupX2 (X : Stand p l e R s m args below meth c T locs cells slots) (K : Kt p Z s m meth c y bytes maxL ret) {x y1 z : Value} (hd : decode bytes pc = .ok (.dup_x2, 1)) (hc : x.category = 1) (hc1 : y1.category = 1) (hc2 : z.category = 1) (hq : pc + 1 = q) (h : Go p e below P T (mkF m q Ls (x :: y1 :: z :: x :: S))) : Go p e below P T (mkF m pc Ls (x :: y1 :: z :: S)) := by
  subst hq
  refine Go.by_ (fun t k => ?_) h
  have hx := K.x
  have hd' := K.d hd
  jvm_step X.here [X.here.top, hx, hd', hc, hc1, hc2]
  exact k
end Plain
/-! steps that look at the heap -/
section Heap
theorem g_gets {index : Nat} {C n d : String} {v : Value} (X : Stand p l e R s m args below meth c T locs cells slots) (K : Kt p Z s m meth c y bytes maxL ret) (w : (Jvm.Cond.fieldLink y.cls index C n d).before a0 Z = true) (eT : T.heap = h) (F : Sta Z h C n d v) (hd : decode bytes pc = .ok (.getstatic index, 3)) (hq : pc + 3 = q)
    (k : ∀ T', Stand p l e R s m args below meth c T' locs cells slots → T'.heap = h → Go p e below P T' (mkF m q Ls (v :: S))) : Go p e below P T (mkF m pc Ls S) := by
  subst hq
  obtain ⟨T1, X1, e1, st⟩ := getS2 X K.x K.z (host := "") K.own (Or.inl w) Via.refl eT F (g := mkF m pc Ls S) rfl (K.d hd)
  exact Go.by_ st (k T1 X1 e1)
theorem g_getf {index : Nat} {C O n d : String} {a : Addr} {v : Value} (X : Stand p l e R s m args below meth c T locs cells slots) (K : Kt p Z s m meth c y bytes maxL ret) (w : (Jvm.Cond.fieldLink y.cls index C n d).before a0 Z = true) (via : Via Z C O n d) (eT : T.heap = h) (F : Fld Z h a O n d v) (hd : decode bytes pc = .ok (.getfield index, 3)) (hq : pc + 3 = q)
    (k : ∀ T', Stand p l e R s m args below meth c T' locs cells slots → T'.heap = h → Go p e below P T' (mkF m q Ls (v :: S))) : Go p e below P T (mkF m pc Ls (.ref a :: S)) := by
  subst hq
  obtain ⟨T1, X1, e1, st⟩ := getF X K.x K.z K.own (host := "") (Or.inl w) via eT F (g := mkF m pc Ls (.ref a :: S)) rfl rfl (K.d hd)
  exact Go.by_ st (k T1 X1 e1)
theorem g_putf {index kk : Nat} {C O n d Cl : String} {a : Addr} {v old : Value} {ty : FieldType} (X : Stand p l e R s m args below meth c T locs cells slots) (K : Kt p Z s m meth c y bytes maxL ret) (w : (Jvm.Cond.fieldLink y.cls index C n d).before a0 Z = true) (via : Via Z C O n d) (eT : T.heap = h) (F : Fld Z h a O n d old) (E : Exa Z h a Cl) (L : (Jvm.Cond.lays Cl O n d).before a0 Z = true ∨ ((Jvm.Cond.laysFinal Cl O n d).before a0 Z = true ∧ y.cls = O ∧ y.name = "<init>")) (wi : (Jvm.Cond.instantiable Cl kk).before a0 Z = true)
    (hty : parseFieldDescriptor d = some ty) (hn : narrow ty v = v) (hf : fits ty v = true) (hd : decode bytes pc = .ok (.putfield index, 3)) (hq : pc + 3 = q)
    (k : ∀ T' h', Stand p l e R s m args below meth c T' (locs ++ [⟨a, Jvm.RoadKit.slotOf Z O n d⟩]) cells slots → T'.heap = h' → Wr h h' a (Jvm.RoadKit.slotOf Z O n d) v → Fld Z h' a O n d v → Go p e below P T' (mkF m q Ls S)) : Go p e below P T (mkF m pc Ls (v :: .ref a :: S)) := by
  subst hq
  obtain ⟨T1, h1, X1, e1, W1, st⟩ := putF X K.x K.z K.own (host := "") (Or.inl w) via eT F E (L.imp id fun q => ⟨q.1, q.2.1, K.nm.trans q.2.2⟩) wi hty hn hf (g := mkF m pc Ls (v :: .ref a :: S)) rfl rfl (K.d hd)
  exact Go.by_ st (k T1 h1 X1 e1 W1 (F.same W1))
theorem g_new {index n : Nat} {C : String} (X : Stand p l e R s m args below meth c T locs cells slots) (K : Kt p Z s m meth c y bytes maxL ret) (w : (Jvm.Cond.classLink y.cls index C).before a0 Z = true) (wi : (Jvm.Cond.instantiable C n).before a0 Z = true) (wz : (Jvm.Cond.initialized C).before a0 Z = true) (eT : T.heap = h) (hd : decode bytes pc = .ok (.new index, 3)) (hc : cells + 1 ≤ R.cells) (hl : slots + n ≤ R.slots) (hq : pc + 3 = q)
    (k : ∀ (T' : State) (h' : Heap) (a : Addr), Stand p l e R s m args below meth c T' locs (cells + 1) (slots + n) → T'.heap = h' → Ext h h' → h.size = a → Exa Z h' a C → (∀ {O nm d : String} {ty : FieldType}, Laid Z a0 C O nm d → parseFieldDescriptor d = some ty → Fld Z h' a O nm d (defaultValue ty)) → Go p e below P T' (mkF m q Ls (.ref a :: S))) : Go p e below P T (mkF m pc Ls S) := by
  subst hq
  obtain ⟨T1, h1, X1, e1, E1, A1, D1, -, st⟩ := newO X K.x K.z K.own w wi wz eT (g := mkF m pc Ls S) rfl (K.d hd) hc hl
  exact Go.by_ st (k T1 h1 _ X1 e1 E1 rfl A1 D1)
theorem g_init {index : Nat} {a : Addr} {W : Nat} (X : Stand p l e R s m args below meth c T locs cells slots) (K : Kt p Z s m meth c y bytes maxL ret) (w1 : (Jvm.Cond.methodLink y.cls index Lib.objectInit).before a0 Z = true) (w2 : (Jvm.Cond.instanceMethod Lib.objectInit).before a0 Z = true) (w3 : (Jvm.Cond.code Lib.objectInit ⟨#[0xb1]⟩ 1 none).before a0 Z = true) (eT : T.heap = h) (hsz : Ls.size = maxL) (hd : decode bytes pc = .ok (.invokespecial index, 3)) (hf : 1 ≤ R.frames) (hW : (S.map fun v => v.category).sum ≤ W) (hl : W + 12 ≤ R.locals) (hq : pc + 3 = q)
    (k : ∀ T', Stand p l e R s m args below meth c T' locs cells slots → T'.heap = h → Go p e below P T' (mkF m q Ls S)) : Go p e below P T (mkF m pc Ls (.ref a :: S)) := by
  subst hq
  obtain ⟨T1, X1, e1, st⟩ := initO X K.x K.z K.own w1 w2 w3 eT (g := mkF m pc Ls (.ref a :: S)) rfl (by rw [K.ml]; exact hsz) rfl (K.d hd) hf (W := W) (by show 2 * 0 + _ ≤ _; omega) hl
  exact Go.by_ st (k T1 X1 e1)
theorem g_castN {index : Nat} (X : Stand p l e R s m args below meth c T locs cells slots) (K : Kt p Z s m meth c y bytes maxL ret) (hd : decode bytes pc = .ok (.checkcast index, 3)) (hq : pc + 3 = q) (k : Go p e below P T (mkF m q Ls (.null :: S))) : Go p e below P T (mkF m pc Ls (.null :: S)) := by
  subst hq
  exact Go.by_ (fun t k => X.checkcastNull K.x (g := mkF m pc Ls (.null :: S)) rfl rfl (K.d hd) _ k) k
theorem g_cast {index : Nat} {C : String} {a : Addr} (X : Stand p l e R s m args below meth c T locs cells slots) (K : Kt p Z s m meth c y bytes maxL ret) (w : (Jvm.Cond.classLink y.cls index C).before a0 Z = true) (eT : T.heap = h) (F : Ins Z h a C true) (hd : decode bytes pc = .ok (.checkcast index, 3)) (hq : pc + 3 = q)
    (k : ∀ T', Stand p l e R s m args below meth c T' locs cells slots → T'.heap = h → Go p e below P T' (mkF m q Ls (.ref a :: S))) : Go p e below P T (mkF m pc Ls (.ref a :: S)) := by
  subst hq
  obtain ⟨T1, X1, e1, st⟩ := castY X K.x K.z K.own w eT F (g := mkF m pc Ls (.ref a :: S)) rfl rfl (K.d hd)
  exact Go.by_ st (k T1 X1 e1)
theorem g_lambda {index : Nat} {σ : Lambda.Shape} {W : Nat} (X : Stand p l e R s m args below meth c T locs cells slots) (K : Kt p Z s m meth c y bytes maxL ret) (w : (Jvm.Cond.lambdaSite y pc index σ).before a0 Z = true) (hσ : σ.captured = []) (hsz : Ls.size = maxL) (hd : decode bytes pc = .ok (.invokedynamic index, 5)) (hW : (S.map fun v => v.category).sum ≤ W) (hl : W + 3072 ≤ R.locals) (hq : pc + 5 = q)
    (k : ∀ a : Addr, Go p e below P T (mkF m q Ls (.ref a :: S))) : Go p e below P T (mkF m pc Ls S) := by
  subst hq
  obtain ⟨cK, one, hat⟩ := Cond.lambdaSite_spec w
  obtain ⟨m', kS, cfS, i0, p0, lk, hm', hkS, hcfS, -, -, hfind, hmade, hcan, hlk⟩ := State.lambdaAt?_spec hat
  have hn : Z.methodNamed? y = some m := by
    have q := State.methodNamed?_setVm (s := Z) K.z.alike y
    have q2 : (Z.setVm s.vm).methodNamed? y = s.methodNamed? y := rfl
    rw [← q, q2]; exact K.named
  cases hn.symm.trans hm'
  rcases hlk with ⟨a, cell, rfl, -⟩ | ⟨-, -, h⟩
  · obtain ⟨k', hk', he⟩ := K.z.alike.2.2 _ _ hkS
    refine Go.by_ (fun t kk => X.lambdaConstant K.x (g := mkF m pc Ls S) rfl (by rw [K.ml]; exact hsz) (K.d hd) hk' (by rw [he]; exact hfind) (by rw [X.admits.platform]; show 2 * 0 + (S.map fun v => v.category).sum + 3072 ≤ _; omega) kk) (k a)
  · exact absurd hσ h
/-! arrays -/
theorem g_len {a : Addr} {kA : ClassId} {ty : FieldType} {n : Int32} {vs : List Value} {dv : Value} (X : Stand p l e R s m args below meth c T locs cells slots) (K : Kt p Z s m meth c y bytes maxL ret) (eT : T.heap = h) (A : Arv Z h a kA ty n vs dv) (hd : decode bytes pc = .ok (.arraylength, 1)) (hq : pc + 1 = q) (k : Go p e below P T (mkF m q Ls (.int n :: S))) : Go p e below P T (mkF m pc Ls (.ref a :: S)) := by
  subst hq
  obtain ⟨cl, Ar, -, Sz, Nn, -, -⟩ := A
  refine Go.by_ (fun t k => X.arraylength K.x (by rw [eT]; exact Ar.1) (State.isArrayOf_alike K.z.alike Ar.2.1) (g := mkF m pc Ls (.ref a :: S)) rfl rfl (K.d hd) _ k) ?_
  rw [len_of Sz Nn]; exact k
theorem arv_at {a : Addr} {kA : ClassId} {ty : FieldType} {n j : Int32} {vs : List Value} {dv v : Value} (A : Arv Z h a kA ty n vs dv) (hj : ¬ j < 0 ∧ j < n) (hv : vs.getD j.toNatClampNeg dv = v) :
    ∃ cl, Arr Z h a cl ty ∧ ¬ (j < 0 ∨ cl.slots.size ≤ j.toNatClampNeg) ∧ cl.slots[j.toNatClampNeg]? = some v := by
  obtain ⟨cl, Ar, -, Sz, Nn, H, -⟩ := A
  have hin := inb_of Sz hj
  exact ⟨cl, Ar, hin, H.at hin hv⟩
theorem g_iald {a : Addr} {kA : ClassId} {n j : Int32} {vs : List Value} {dv v : Value} (X : Stand p l e R s m args below meth c T locs cells slots) (K : Kt p Z s m meth c y bytes maxL ret) (eT : T.heap = h) (A : Arv Z h a kA .int n vs dv) (hj : ¬ j < 0 ∧ j < n) (hv : vs.getD j.toNatClampNeg dv = v) (hd : decode bytes pc = .ok (.iaload, 1)) (hq : pc + 1 = q) (k : Go p e below P T (mkF m q Ls (v :: S))) : Go p e below P T (mkF m pc Ls (.int j :: .ref a :: S)) := by
  subst hq
  obtain ⟨cl, Ar, hin, hat⟩ := arv_at A hj hv
  exact Go.by_ (fun t k => X.iaload K.x (by rw [eT]; exact Ar.1) (State.isArrayOf_alike K.z.alike Ar.2.1) Ar.2.2 hin hat (g := mkF m pc Ls (.int j :: .ref a :: S)) rfl rfl (K.d hd) _ k) k
theorem g_bald {a : Addr} {kA : ClassId} {n j : Int32} {vs : List Value} {dv v : Value} (X : Stand p l e R s m args below meth c T locs cells slots) (K : Kt p Z s m meth c y bytes maxL ret) (eT : T.heap = h) (A : Arv Z h a kA .byte n vs dv) (hj : ¬ j < 0 ∧ j < n) (hv : vs.getD j.toNatClampNeg dv = v) (hd : decode bytes pc = .ok (.baload, 1)) (hq : pc + 1 = q) (k : Go p e below P T (mkF m q Ls (v :: S))) : Go p e below P T (mkF m pc Ls (.int j :: .ref a :: S)) := by
  subst hq
  obtain ⟨cl, Ar, hin, hat⟩ := arv_at A hj hv
  exact Go.by_ (fun t k => X.baloadBytes K.x (by rw [eT]; exact Ar.1) (State.isArrayOf_alike K.z.alike Ar.2.1) Ar.2.2 hin hat (g := mkF m pc Ls (.int j :: .ref a :: S)) rfl rfl (K.d hd) _ k) k
theorem g_zald {a : Addr} {kA : ClassId} {n j : Int32} {vs : List Value} {dv v : Value} (X : Stand p l e R s m args below meth c T locs cells slots) (K : Kt p Z s m meth c y bytes maxL ret) (eT : T.heap = h) (A : Arv Z h a kA .boolean n vs dv) (hj : ¬ j < 0 ∧ j < n) (hv : vs.getD j.toNatClampNeg dv = v) (hd : decode bytes pc = .ok (.baload, 1)) (hq : pc + 1 = q) (k : Go p e below P T (mkF m q Ls (v :: S))) : Go p e below P T (mkF m pc Ls (.int j :: .ref a :: S)) := by
  subst hq
  obtain ⟨cl, Ar, hin, hat⟩ := arv_at A hj hv
  exact Go.by_ (fun t k => X.baloadBooleans K.x (by rw [eT]; exact Ar.1) (State.isArrayOf_alike K.z.alike Ar.2.1) Ar.2.2 hin hat (g := mkF m pc Ls (.int j :: .ref a :: S)) rfl rfl (K.d hd) _ k) k
theorem g_aald {a : Addr} {kA : ClassId} {ty : FieldType} {n j : Int32} {vs : List Value} {dv v : Value} (X : Stand p l e R s m args below meth c T locs cells slots) (K : Kt p Z s m meth c y bytes maxL ret) (eT : T.heap = h) (A : Arv Z h a kA ty n vs dv) (hty : ty.isReference = true) (hj : ¬ j < 0 ∧ j < n) (hv : vs.getD j.toNatClampNeg dv = v) (hd : decode bytes pc = .ok (.aaload, 1)) (hq : pc + 1 = q) (k : Go p e below P T (mkF m q Ls (v :: S))) : Go p e below P T (mkF m pc Ls (.int j :: .ref a :: S)) := by
  subst hq
  obtain ⟨cl, Ar, hin, hat⟩ := arv_at A hj hv
  exact Go.by_ (fun t k => X.aaload K.x (by rw [eT]; exact Ar.1) (State.isArrayOf_alike K.z.alike Ar.2.1) hty Ar.2.2 hin hat (g := mkF m pc Ls (.int j :: .ref a :: S)) rfl rfl (K.d hd) _ k) k
theorem g_newp {aty : ArrayType} {n : Int32} {cap : Nat} {ty : FieldType} {vs : List Value} (X : Stand p l e R s m args below meth c T locs cells slots) (K : Kt p Z s m meth c y bytes maxL ret) (w : (Jvm.Cond.arrayClass ty).before a0 Z = true) (hty : newarray.typeOf aty = ty) (eT : T.heap = h) (hd : decode bytes pc = .ok (.newarray aty, 2)) (hn : ¬ n < 0) (hcap : n.toNatClampNeg ≤ cap) (hvs : List.replicate cap (defaultValue ty) = vs) (hb : cap * 8 ≤ 536870912) (hc : cells + 1 ≤ R.cells) (hl : slots + cap ≤ R.slots) (hq : pc + 2 = q)
    (k : ∀ (T' : State) (h' : Heap) (a : Addr) (kA : ClassId), Stand p l e R s m args below meth c T' locs (cells + 1) (slots + cap) → T'.heap = h' → Ext h h' → h.size = a → Arv Z h' a kA ty n vs (defaultValue ty) → Go p e below P T' (mkF m q Ls (.ref a :: S))) : Go p e below P T (mkF m pc Ls (.int n :: S)) := by
  subst hq hty hvs
  obtain ⟨T1, h1, kA, X1, e1, E1, A1, st⟩ := newP X K.x K.z w eT (g := mkF m pc Ls (.int n :: S)) rfl (K.d hd) rfl hn hcap hb hc hl
  exact Go.by_ st (k T1 h1 _ kA X1 e1 E1 rfl ((Arv.new A1 hn).pad (pad_rep [] _ cap)))
theorem g_newr {index : Nat} {C : String} {n : Int32} {cap : Nat} {vs : List Value} (X : Stand p l e R s m args below meth c T locs cells slots) (K : Kt p Z s m meth c y bytes maxL ret) (w : (Jvm.Cond.classLink y.cls index C).before a0 Z = true) (w2 : (Jvm.Cond.arrayOver (.object C)).before a0 Z = true) (eT : T.heap = h) (hd : decode bytes pc = .ok (.anewarray index, 3)) (hn : ¬ n < 0) (hcap : n.toNatClampNeg ≤ cap) (hvs : List.replicate cap Value.null = vs) (hb : cap * 8 ≤ 536870912) (hc : cells + 1 ≤ R.cells) (hl : slots + cap ≤ R.slots) (hq : pc + 3 = q)
    (k : ∀ (T' : State) (h' : Heap) (a : Addr) (kA : ClassId), Stand p l e R s m args below meth c T' locs (cells + 1) (slots + cap) → T'.heap = h' → Ext h h' → h.size = a → Arv Z h' a kA (.object C) n vs .null → Ovr Z kA C → Go p e below P T' (mkF m q Ls (.ref a :: S))) : Go p e below P T (mkF m pc Ls (.int n :: S)) := by
  subst hq hvs
  obtain ⟨T1, h1, kA, X1, e1, E1, A1, O1, st⟩ := newR X K.x K.z K.own w w2 eT (g := mkF m pc Ls (.int n :: S)) rfl (K.d hd) rfl hn hcap hb hc hl
  exact Go.by_ st (k T1 h1 _ kA X1 e1 E1 rfl ((Arv.new A1 hn).pad (pad_rep [] _ cap)) O1)
theorem g_grid {index : Nat} {C ad : String} {ty : FieldType} {n k : Int32} {N cap : Nat} {vs : List Value} (X : Stand p l e R s m args below meth c T locs cells slots) (K : Kt p Z s m meth c y bytes maxL ret) (hC : (FieldType.array ty).toString = C) (had : "[" ++ C = ad) (w1 : (Jvm.Cond.classLink y.cls index ad).before a0 Z = true) (w2 : (Jvm.Cond.arrayOver (.array ty)).before a0 Z = true) (w3 : (Jvm.Cond.arrayClass ty).before a0 Z = true) (eT : T.heap = h) (hd : decode bytes pc = .ok (.multianewarray index 2, 4)) (hn : ¬ n < 0) (hk : ¬ k < 0) (hN : n.toNatClampNeg = N) (hcap : k.toNatClampNeg ≤ cap) (hvs : List.replicate cap (defaultValue ty) = vs) (hb : cap * 8 ≤ 536870912) (hb1 : N ≤ 1000) (hdf : fits ty (defaultValue ty) = true) (hdd : (defaultValue ty).isDefault = true) (hc : cells + (1 + N) ≤ R.cells) (hl : slots + (N + N * cap) ≤ R.slots) (hq : pc + 4 = q)
    (kk : ∀ (T' : State) (h' : Heap) (a : Addr) (kA kI : ClassId), Stand p l e R s m args below meth c T' locs (cells + (1 + N)) (slots + (N + N * cap)) → T'.heap = h' → Ext h h' → h.size = a → Arv Z h' a kA (.array ty) n ((List.range N).map fun j => Value.ref (a + 1 + j)) .null → (∀ j : Nat, j < N → Arv Z h' (a + 1 + j) kI ty k vs (defaultValue ty)) → Go p e below P T' (mkF m q Ls (.ref a :: S))) : Go p e below P T (mkF m pc Ls (.int k :: .int n :: S)) := by
  subst hq hvs
  obtain ⟨T1, h1, kA, kI, X1, e1, E1, A1, -, -, I1, st⟩ := gridM X K.x K.z K.own hC had w1 w2 w3 eT (g := mkF m pc Ls (.int k :: .int n :: S)) rfl (K.d hd) rfl hn hk hN rfl hcap hb hb1 hdf hdd hc hl
  refine Go.by_ st (kk T1 h1 _ kA kI X1 e1 E1 rfl ?_ fun j hj => ?_)
  · simpa [List.map_map, Function.comp_def] using A1
  · exact (Arv.new (I1 j _ (by simp [hj])).1 hk).pad (pad_rep [] _ cap)
theorem arv_set {a : Addr} {kA : ClassId} {ty : FieldType} {n j : Int32} {vs vs' : List Value} {dv v : Value} {h' : Heap} (A : Arv Z h a kA ty n vs dv) (hv : fits ty v = true) (W : Wr h h' a j.toNatClampNeg v) (hl : j.toNatClampNeg < vs.length) (hs : vs.set j.toNatClampNeg v = vs') : Arv Z h' a kA ty n vs' dv := by
  subst hs
  obtain ⟨cl, Ar, q1, Sz, Nn, H, G⟩ := A
  exact Arv.set Ar q1 Sz Nn H G hv W _ rfl hl
theorem g_iast {a : Addr} {kA : ClassId} {n j x : Int32} {vs vs' : List Value} {dv : Value} (X : Stand p l e R s m args below meth c T locs cells slots) (K : Kt p Z s m meth c y bytes maxL ret) (eT : T.heap = h) (A : Arv Z h a kA .int n vs dv) (hj : ¬ j < 0 ∧ j < n) (hl : j.toNatClampNeg < vs.length) (hs : vs.set j.toNatClampNeg (.int x) = vs') (hd : decode bytes pc = .ok (.iastore, 1)) (hq : pc + 1 = q)
    (k : ∀ T' h', Stand p l e R s m args below meth c T' (locs ++ [⟨a, j.toNatClampNeg⟩]) cells slots → T'.heap = h' → Wr h h' a j.toNatClampNeg (.int x) → Arv Z h' a kA .int n vs' dv → Go p e below P T' (mkF m q Ls S)) : Go p e below P T (mkF m pc Ls (.int x :: .int j :: .ref a :: S)) := by
  subst hq
  obtain ⟨cl, Ar, hin, -⟩ := arv_at A hj rfl
  obtain ⟨T1, h1, X1, e1, W1, st⟩ := stI X K.x K.z eT Ar hin (g := mkF m pc Ls (.int x :: .int j :: .ref a :: S)) rfl rfl (K.d hd)
  exact Go.by_ st (k T1 h1 X1 e1 W1 (arv_set A rfl W1 hl hs))
theorem g_last {a : Addr} {kA : ClassId} {n j : Int32} {x : Int64} {vs vs' : List Value} {dv : Value} (X : Stand p l e R s m args below meth c T locs cells slots) (K : Kt p Z s m meth c y bytes maxL ret) (eT : T.heap = h) (A : Arv Z h a kA .long n vs dv) (hj : ¬ j < 0 ∧ j < n) (hl : j.toNatClampNeg < vs.length) (hs : vs.set j.toNatClampNeg (.long x) = vs') (hd : decode bytes pc = .ok (.lastore, 1)) (hq : pc + 1 = q)
    (k : ∀ T' h', Stand p l e R s m args below meth c T' (locs ++ [⟨a, j.toNatClampNeg⟩]) cells slots → T'.heap = h' → Wr h h' a j.toNatClampNeg (.long x) → Arv Z h' a kA .long n vs' dv → Go p e below P T' (mkF m q Ls S)) : Go p e below P T (mkF m pc Ls (.long x :: .int j :: .ref a :: S)) := by
  subst hq
  obtain ⟨cl, Ar, hin, -⟩ := arv_at A hj rfl
  obtain ⟨T1, h1, X1, e1, W1, st⟩ := stJ X K.x K.z eT Ar hin (g := mkF m pc Ls (.long x :: .int j :: .ref a :: S)) rfl rfl (K.d hd)
  exact Go.by_ st (k T1 h1 X1 e1 W1 (arv_set A rfl W1 hl hs))
theorem g_bast {a : Addr} {kA : ClassId} {n j x z : Int32} {vs vs' : List Value} {dv : Value} (X : Stand p l e R s m args below meth c T locs cells slots) (K : Kt p Z s m meth c y bytes maxL ret) (eT : T.heap = h) (A : Arv Z h a kA .byte n vs dv) (hj : ¬ j < 0 ∧ j < n) (hl : j.toNatClampNeg < vs.length) (hz : nar .byte x = z) (hs : vs.set j.toNatClampNeg (.int z) = vs') (hd : decode bytes pc = .ok (.bastore, 1)) (hq : pc + 1 = q)
    (k : ∀ T' h', Stand p l e R s m args below meth c T' (locs ++ [⟨a, j.toNatClampNeg⟩]) cells slots → T'.heap = h' → Wr h h' a j.toNatClampNeg (.int z) → Arv Z h' a kA .byte n vs' dv → Go p e below P T' (mkF m q Ls S)) : Go p e below P T (mkF m pc Ls (.int x :: .int j :: .ref a :: S)) := by
  subst hq hz
  obtain ⟨cl, Ar, hin, -⟩ := arv_at A hj rfl
  obtain ⟨T1, h1, X1, e1, W1, st⟩ := stB X K.x K.z eT Ar hin (g := mkF m pc Ls (.int x :: .int j :: .ref a :: S)) rfl rfl (K.d hd)
  exact Go.by_ st (k T1 h1 X1 e1 W1 (arv_set A (fits_nar_byte _) W1 hl hs))
theorem g_zast {a : Addr} {kA : ClassId} {n j x z : Int32} {vs vs' : List Value} {dv : Value} (X : Stand p l e R s m args below meth c T locs cells slots) (K : Kt p Z s m meth c y bytes maxL ret) (eT : T.heap = h) (A : Arv Z h a kA .boolean n vs dv) (hj : ¬ j < 0 ∧ j < n) (hl : j.toNatClampNeg < vs.length) (hz : nar .boolean x = z) (hs : vs.set j.toNatClampNeg (.int z) = vs') (hd : decode bytes pc = .ok (.bastore, 1)) (hq : pc + 1 = q)
    (k : ∀ T' h', Stand p l e R s m args below meth c T' (locs ++ [⟨a, j.toNatClampNeg⟩]) cells slots → T'.heap = h' → Wr h h' a j.toNatClampNeg (.int z) → Arv Z h' a kA .boolean n vs' dv → Go p e below P T' (mkF m q Ls S)) : Go p e below P T (mkF m pc Ls (.int x :: .int j :: .ref a :: S)) := by
  subst hq hz
  obtain ⟨cl, Ar, hin, -⟩ := arv_at A hj rfl
  obtain ⟨T1, h1, X1, e1, W1, st⟩ := stZ X K.x K.z eT Ar hin (g := mkF m pc Ls (.int x :: .int j :: .ref a :: S)) rfl rfl (K.d hd)
  exact Go.by_ st (k T1 h1 X1 e1 W1 (arv_set A (fits_nar_bool _) W1 hl hs))
theorem g_aast {a : Addr} {kA : ClassId} {C : String} {n j : Int32} {v : Value} {vs vs' : List Value} {dv : Value} (X : Stand p l e R s m args below meth c T locs cells slots) (K : Kt p Z s m meth c y bytes maxL ret) (eT : T.heap = h) (A : Arv Z h a kA (.object C) n vs dv) (hv : v = .null ∨ ∃ b, v = .ref b ∧ Ovr Z kA C ∧ Ins Z h b C true) (hj : ¬ j < 0 ∧ j < n) (hl : j.toNatClampNeg < vs.length) (hs : vs.set j.toNatClampNeg v = vs') (hd : decode bytes pc = .ok (.aastore, 1)) (hq : pc + 1 = q)
    (k : ∀ T' h', Stand p l e R s m args below meth c T' (locs ++ [⟨a, j.toNatClampNeg⟩]) cells slots → T'.heap = h' → Wr h h' a j.toNatClampNeg v → Arv Z h' a kA (.object C) n vs' dv → Go p e below P T' (mkF m q Ls S)) : Go p e below P T (mkF m pc Ls (v :: .int j :: .ref a :: S)) := by
  subst hq
  have hfit : fits (.object C) v = true := by rcases hv with rfl | ⟨b, rfl, -⟩ <;> rfl
  obtain ⟨cl, Ar, q1, Sz, -⟩ := id A
  have hin := inb_of Sz hj
  have F : Sto Z h a v := by
    rcases hv with rfl | ⟨b, rfl, O, I⟩
    · exact Or.inl rfl
    · exact Sto.ofV Ar q1 O I
  obtain ⟨T1, h1, X1, e1, W1, st⟩ := stR X K.x K.z eT Ar hin rfl F (g := mkF m pc Ls (v :: .int j :: .ref a :: S)) rfl rfl (K.d hd)
  exact Go.by_ st (k T1 h1 X1 e1 W1 (arv_set A hfit W1 hl hs))
/-! calls -/
variable {y' : MethodName} {bytes' : ByteArray} {maxL' : Nat} {ret' : Option FieldType} {rm : Room} {as' : Array Value} {Q' : Option Value → Heap → List Loc → Prop} {index : Nat} {argsL rest : List Value} {W : Nat}
theorem g_static (X : Stand p l e R s m args below meth c T locs cells slots) (K : Kt p Z s m meth c y bytes maxL ret) (w1 : (Jvm.Cond.methodLink y.cls index y').before a0 Z = true) (w2 : (Jvm.Cond.static y').before a0 Z = true) (w3 : (Jvm.Cond.initialized y'.cls).before a0 Z = true) (w4 : (Jvm.Cond.code y' bytes' maxL' ret').before a0 Z = true) (hy : y'.cls ≠ "java/lang/invoke/MethodHandle" ∧ y'.cls ≠ "java/lang/invoke/VarHandle")
    (hM : Mt l Z y' bytes' maxL' ret' [] rm as' h Q') (eT : T.heap = h) (hsz : Ls.size = maxL) (hlen : ∀ sig, parseMethodDescriptor y'.desc = some sig → argsL.length = sig.parameters.length) (hst : S = argsL.reverse ++ rest) (has : argsL.toArray = as') (hW : (rest.map fun v => v.category).sum ≤ W) (hd : decode bytes pc = .ok (.invokestatic index, 3))
    (hf : rm.frames + 1 ≤ R.frames) (hl : W + (maxL' + 11) + rm.locals ≤ R.locals) (hc : cells + rm.cells ≤ R.cells) (hs : slots + rm.slots ≤ R.slots) (hq : pc + 3 = q)
    (k : ∀ T' v L, Stand p l e R s m args below meth c T' (locs ++ L) (cells + rm.cells) (slots + rm.slots) → Q' v T'.heap L → Go p e below P T' (mkF m q Ls (v.toList ++ rest))) : Go p e below P T (mkF m pc Ls S) := by
  subst hq has hst
  obtain ⟨v, _, ⟨T1, L1, k1, n1⟩, -, X1, ⟨Lc, hQ, l1, y1, z1⟩, st⟩ := Jvm.LawKit.callS X K.x (y := y') K.own (mvT K.z w1) (mvT K.z w2) (mvT K.z w3) (mvT K.z w4) hy (backOf (W := W) hM K.z w4 w3 hf hl) (g := mkF m pc Ls (argsL.reverse ++ rest)) rfl (by rw [K.ml]; exact hsz) (argsL := argsL) (rest := rest) hlen rfl (by show 2 * 0 + _ ≤ _; omega) (K.d hd) (fun _ _ => ⟨rfl, eT, hc, hs⟩)
  dsimp only [Pt.U, Pt.locs, Pt.cells, Pt.slots] at X1 l1 y1 z1 st hQ
  subst l1 y1 z1
  exact Go.by_ st (k T1 v Lc X1 hQ)
theorem g_special {a : Addr} (X : Stand p l e R s m args below meth c T locs cells slots) (K : Kt p Z s m meth c y bytes maxL ret) (hy1 : y'.name = "<init>") (w1 : (Jvm.Cond.methodLink y.cls index y').before a0 Z = true) (w2 : (Jvm.Cond.instanceMethod y').before a0 Z = true) (w3 : (Jvm.Cond.initialized y'.cls).before a0 Z = true) (w4 : (Jvm.Cond.code y' bytes' maxL' none).before a0 Z = true) (hy : y'.cls ≠ "java/lang/invoke/MethodHandle" ∧ y'.cls ≠ "java/lang/invoke/VarHandle")
    (hM : Mt l Z y' bytes' maxL' none [] rm as' h Q') (eT : T.heap = h) (hsz : Ls.size = maxL) (hlen : ∀ sig, parseMethodDescriptor y'.desc = some sig → argsL.length = sig.parameters.length) (hst : S = argsL.reverse ++ .ref a :: rest) (has : (Value.ref a :: argsL).toArray = as') (hW : (rest.map fun v => v.category).sum ≤ W) (hd : decode bytes pc = .ok (.invokespecial index, 3))
    (hf : rm.frames + 1 ≤ R.frames) (hl : W + (maxL' + 11) + rm.locals ≤ R.locals) (hc : cells + rm.cells ≤ R.cells) (hs : slots + rm.slots ≤ R.slots) (hq : pc + 3 = q)
    (k : ∀ T' v L, Stand p l e R s m args below meth c T' (locs ++ L) (cells + rm.cells) (slots + rm.slots) → Q' v T'.heap L → Go p e below P T' (mkF m q Ls (v.toList ++ rest))) : Go p e below P T (mkF m pc Ls S) := by
  subst hq has hst
  obtain ⟨v, _, ⟨T1, L1, k1, n1⟩, -, X1, ⟨Lc, hQ, l1, y1, z1⟩, st⟩ := X.specialBack K.x (y := y') hy1 K.own (mvT K.z w1) (mvT K.z w2) (mvT K.z w4) hy (backOf (W := W) hM K.z w4 w3 hf hl) (g := mkF m pc Ls (argsL.reverse ++ .ref a :: rest)) rfl (by rw [K.ml]; exact hsz) (Steps.refl _) (a := a) (argsL := argsL) (rest := rest) hlen rfl (by show 2 * 0 + _ ≤ _; omega) (K.d hd) (fun _ _ => ⟨rfl, eT, hc, hs⟩)
  dsimp only [Pt.U, Pt.locs, Pt.cells, Pt.slots] at X1 l1 y1 z1 st hQ
  subst l1 y1 z1
  exact Go.tr st (k T1 v Lc X1 hQ)
theorem g_virtual {a : Addr} {C : String} {z' : MethodName} (X : Stand p l e R s m args below meth c T locs cells slots) (K : Kt p Z s m meth c y bytes maxL ret) (w1 : (Jvm.Cond.methodLink y.cls index y').before a0 Z = true) (w2 : (Jvm.Cond.declares y').before a0 Z = true) (nf : NotFace s y') (w5 : (Jvm.Cond.selects C y' z').before a0 Z = true) (w6 : (Jvm.Cond.instanceMethod z').before a0 Z = true) (w3 : (Jvm.Cond.initialized z'.cls).before a0 Z = true) (w4 : (Jvm.Cond.code z' bytes' maxL' ret').before a0 Z = true) (hy : y'.cls ≠ "java/lang/invoke/MethodHandle" ∧ y'.cls ≠ "java/lang/invoke/VarHandle")
    (hM : Mt l Z z' bytes' maxL' ret' [] rm as' h Q') (eT : T.heap = h) (E : Exa Z h a C) (hsz : Ls.size = maxL) (hlen : ∀ sig, parseMethodDescriptor y'.desc = some sig → argsL.length = sig.parameters.length) (hst : S = argsL.reverse ++ .ref a :: rest) (has : (Value.ref a :: argsL).toArray = as') (hW : (rest.map fun v => v.category).sum ≤ W) (hd : decode bytes pc = .ok (.invokevirtual index, 3))
    (hf : rm.frames + 1 ≤ R.frames) (hl : W + (maxL' + 11) + rm.locals ≤ R.locals) (hc : cells + rm.cells ≤ R.cells) (hs : slots + rm.slots ≤ R.slots) (hq : pc + 3 = q)
    (k : ∀ T' v L, Stand p l e R s m args below meth c T' (locs ++ L) (cells + rm.cells) (slots + rm.slots) → Q' v T'.heap L → Go p e below P T' (mkF m q Ls (v.toList ++ rest))) : Go p e below P T (mkF m pc Ls S) := by
  subst hq has hst
  obtain ⟨cq, kq, qa, qb, qc⟩ := isOf K.z eT E
  obtain ⟨v, _, ⟨T1, L1, k1, n1⟩, -, X1, ⟨Lc, hQ, l1, y1, z1⟩, st⟩ := X.virtualBack K.x (y := y') (z := z') K.own (mvT K.z w1) (mvT K.z w2) nf (mvT K.z w5) (mvT K.z w6) hy (backOf (W := W) hM K.z w4 w3 hf hl) qa qc (g := mkF m pc Ls (argsL.reverse ++ .ref a :: rest)) rfl (by rw [K.ml]; exact hsz) (Steps.refl _) (argsL := argsL) (rest := rest) hlen rfl (by show 2 * 0 + _ ≤ _; omega) (K.d hd) (fun _ _ => ⟨rfl, eT, hc, hs⟩)
  dsimp only [Pt.U, Pt.locs, Pt.cells, Pt.slots] at X1 l1 y1 z1 st hQ
  subst l1 y1 z1
  exact Go.tr st (k T1 v Lc X1 hQ)
theorem g_virtualUp {a : Addr} {C owner : String} {z' : MethodName} (X : Stand p l e R s m args below meth c T locs cells slots) (K : Kt p Z s m meth c y bytes maxL ret) (w1 : (Jvm.Cond.methodLink y.cls index y').before a0 Z = true) (w0 : (Jvm.Cond.sameMethod y'.cls owner y'.name y'.desc).before a0 Z = true) (w2 : (Jvm.Cond.declares ⟨owner, y'.name, y'.desc⟩).before a0 Z = true) (hy : owner ≠ "java/lang/invoke/MethodHandle" ∧ owner ≠ "java/lang/invoke/VarHandle") (w5 : (Jvm.Cond.selects C y' z').before a0 Z = true) (w6 : (Jvm.Cond.instanceMethod z').before a0 Z = true) (w3 : (Jvm.Cond.initialized z'.cls).before a0 Z = true) (w4 : (Jvm.Cond.code z' bytes' maxL' ret').before a0 Z = true)
    (hM : Mt l Z z' bytes' maxL' ret' [] rm as' h Q') (eT : T.heap = h) (E : Exa Z h a C) (hsz : Ls.size = maxL) (hlen : ∀ sig, parseMethodDescriptor y'.desc = some sig → argsL.length = sig.parameters.length) (hst : S = argsL.reverse ++ .ref a :: rest) (has : (Value.ref a :: argsL).toArray = as') (hW : (rest.map fun v => v.category).sum ≤ W) (hd : decode bytes pc = .ok (.invokevirtual index, 3))
    (hf : rm.frames + 1 ≤ R.frames) (hl : W + (maxL' + 11) + rm.locals ≤ R.locals) (hc : cells + rm.cells ≤ R.cells) (hs : slots + rm.slots ≤ R.slots) (hq : pc + 3 = q)
    (k : ∀ T' v L, Stand p l e R s m args below meth c T' (locs ++ L) (cells + rm.cells) (slots + rm.slots) → Q' v T'.heap L → Go p e below P T' (mkF m q Ls (v.toList ++ rest))) : Go p e below P T (mkF m pc Ls S) := by
  subst hq has hst
  obtain ⟨cq, kq, qa, qb, qc⟩ := isOf K.z eT E
  obtain ⟨v, _, ⟨T1, L1, k1, n1⟩, -, X1, ⟨Lc, hQ, l1, y1, z1⟩, st⟩ := X.virtualBackUp K.x (x := y') (y := z') K.own (mvT K.z w1) (mvT K.z w0) (mvT K.z w2) hy (mvT K.z w5) (mvT K.z w6) (backOf (W := W) hM K.z w4 w3 hf hl) qa qc (g := mkF m pc Ls (argsL.reverse ++ .ref a :: rest)) rfl (by rw [K.ml]; exact hsz) (Steps.refl _) (argsL := argsL) (rest := rest) hlen rfl (by show 2 * 0 + _ ≤ _; omega) (K.d hd) (fun _ _ => ⟨rfl, eT, hc, hs⟩)
  dsimp only [Pt.U, Pt.locs, Pt.cells, Pt.slots] at X1 l1 y1 z1 st hQ
  subst l1 y1 z1
  exact Go.tr st (k T1 v Lc X1 hQ)
theorem g_face {a : Addr} {C : String} {z' : MethodName} {cnt : Nat} (X : Stand p l e R s m args below meth c T locs cells slots) (K : Kt p Z s m meth c y bytes maxL ret) (w1 : (Jvm.Cond.methodLink y.cls index y').before a0 Z = true) (w2 : (Jvm.Cond.declares y').before a0 Z = true) (wf : (Jvm.Cond.interfaceMethod y'.cls y'.cls y'.name y'.desc).before args s = true) (w5 : (Jvm.Cond.selects C y' z').before a0 Z = true) (w6 : (Jvm.Cond.instanceMethod z').before a0 Z = true) (wp : (Jvm.Cond.publicMethod z').before a0 Z = true) (wu : (Jvm.Cond.unhidden C y'.name y'.desc).before a0 Z = true) (wca : (Jvm.Cond.castable C y'.cls).before a0 Z = true) (w3 : (Jvm.Cond.initialized z'.cls).before a0 Z = true) (w4 : (Jvm.Cond.code z' bytes' maxL' ret').before a0 Z = true) (hy : y'.cls ≠ "java/lang/invoke/MethodHandle" ∧ y'.cls ≠ "java/lang/invoke/VarHandle")
    (hM : Mt l Z z' bytes' maxL' ret' [] rm as' h Q') (eT : T.heap = h) (E : Exa Z h a C) (hsz : Ls.size = maxL) (hlen : ∀ sig, parseMethodDescriptor y'.desc = some sig → argsL.length = sig.parameters.length) (hst : S = argsL.reverse ++ .ref a :: rest) (has : (Value.ref a :: argsL).toArray = as') (hW : (rest.map fun v => v.category).sum ≤ W) (hd : decode bytes pc = .ok (.invokeinterface index cnt, 5))
    (hf : rm.frames + 1 ≤ R.frames) (hl : W + (maxL' + 11) + rm.locals ≤ R.locals) (hc : cells + rm.cells ≤ R.cells) (hs : slots + rm.slots ≤ R.slots) (hq : pc + 5 = q)
    (k : ∀ T' v L, Stand p l e R s m args below meth c T' (locs ++ L) (cells + rm.cells) (slots + rm.slots) → Q' v T'.heap L → Go p e below P T' (mkF m q Ls (v.toList ++ rest))) : Go p e below P T (mkF m pc Ls S) := by
  subst hq has hst
  obtain ⟨cq, kq, qa, qb, qc⟩ := isOf K.z eT E
  obtain ⟨v, _, ⟨T1, L1, k1, n1⟩, -, X1, ⟨Lc, hQ, l1, y1, z1⟩, st⟩ := X.interfaceBack K.x (xi := y') (y := z') K.own (mvT K.z w1) (mvT K.z w2) wf (mvT K.z w5) (mvT K.z w6) (mvT K.z wp) (mvT K.z wu) (mvT K.z wca) hy (backOf (W := W) hM K.z w4 w3 hf hl) qa qb qc (g := mkF m pc Ls (argsL.reverse ++ .ref a :: rest)) rfl (by rw [K.ml]; exact hsz) (Steps.refl _) (argsL := argsL) (rest := rest) hlen rfl (by show 2 * 0 + _ ≤ _; omega) (K.d hd) (fun _ _ => ⟨rfl, eT, hc, hs⟩)
  dsimp only [Pt.U, Pt.locs, Pt.cells, Pt.slots] at X1 l1 y1 z1 st hQ
  subst l1 y1 z1
  exact Go.tr st (k T1 v Lc X1 hQ)
theorem nf_self {C : String} (K : Kt p Z s m meth c y bytes maxL ret) (w : (Jvm.Cond.selects C y' y').before a0 Z = true) : NotFace s y' := notFace_of_selects (args := #[]) (mvT K.z w)
end Heap
end Own
section Start
variable {Z : State} {a0 : Array Value} {t u : Jvm.Term} {n : Int32} {a : Addr} {ty : FieldType} {vs : List Value} {dv v : Value}
def adOf (C n d : String) (Z : State) (a0 : Array Value) : Addr := match (Jvm.Term.static C n d).eval a0 Z none [] Z with | some (.ref a) => a | _ => 0
theorem own_ad {C n d : String} (h : ∃ x, (Jvm.Term.static C n d).eval a0 Z none [] Z = some (.ref x)) : (Jvm.Term.static C n d).eval a0 Z none [] Z = some (.ref (adOf C n d Z a0)) := by
  obtain ⟨x, hx⟩ := h; simp only [adOf, hx]
theorem own_eqint (h : (Jvm.Cond.eq t (.int n)).value a0 Z none Z [] = some true) : t.eval a0 Z none [] Z = some (.int n) := by
  obtain ⟨x, y, h1, h2, h3, -⟩ := cmp_v (Or.inl h)
  cases h2
  cases x <;> first | (simp [Kin, Value.isRef] at h3; done) | skip
  rw [h1]
  have q := gotT (Cond.eq_ints h1 rfl) h
  rw [q]
theorem own_eqref (h : (Jvm.Cond.eq t u).value a0 Z none Z [] = some true) (hu : u.eval a0 Z none [] Z = some (.ref a)) : t.eval a0 Z none [] Z = some (.ref a) := by
  obtain ⟨x, y, h1, h2, h3, h4⟩ := cmp_v (Or.inl h)
  cases h2.symm.trans hu
  have hx : x.isRef = true := by cases x <;> first | rfl | exact h3.1 | (simp [Kin] at h3; done)
  have q := gotT (eq_R h1 hu hx rfl) h
  rw [h1, q]
def kaOf (Z : State) (a : Addr) : ClassId := match Z.heap[a]? with | some c => c.cls | none => 0
theorem own_len (h : (Jvm.Term.length t).eval a0 Z none [] Z = some (.int n)) (ht : t.eval a0 Z none [] Z = some (.ref a)) : ∃ cl : Cell, Z.heap[a]? = some cl ∧ cl.slots.size < 2 ^ 31 ∧ cl.slots.size.toInt32 = n := by
  obtain ⟨a', cl, h1, h2, h3⟩ := Term.length_spec h
  cases ht.symm.trans h1
  refine ⟨cl, (State.arrayAt?_spec h2).1, ?_, by cases h3; rfl⟩
  by_cases q : cl.slots.size < 2147483648
  · exact q
  · simp [Term.eval, ht, h2, q] at h
theorem own_arv (hf : Fit Z) (ht : t.eval a0 Z none [] Z = some (.ref a)) (ha : (Jvm.Cond.arrayOf t ty).value a0 Z none Z [] = some true) (hl : (Jvm.Cond.eq (Jvm.Term.length t) (.int n)).value a0 Z none Z [] = some true) (hn : ¬ n < 0) (hv : n.toNatClampNeg = vs.length) (he : ∀ cl : Cell, Z.heap[a]? = some cl → HasL cl 0 vs) : Arv Z Z.heap a (kaOf Z a) ty n vs dv := by
  obtain ⟨cl, A⟩ := Arr.start ht ha
  obtain ⟨cl', h1, h2, h3⟩ := own_len (own_eqint hl) ht
  cases A.1.symm.trans h1
  have e : kaOf Z a = cl.cls := by simp only [kaOf, A.1]
  rw [e]
  exact Arv.start hf A h2 h3 hn hv (he cl A.1)
theorem own_el {j : Int32} {i : Nat} {cl : Cell} (h : (Jvm.Term.elem t (.int j)).eval a0 Z none [] Z = some v) (ht : t.eval a0 Z none [] Z = some (.ref a)) (hc : Z.heap[a]? = some cl) (hi : j.toNatClampNeg = i) : cl.slots[i]? = some v := by
  subst hi; exact (elem_in h ht (Term.int_eval j) hc).2
theorem own_lit {z k : Int32} {i : Int} (h : z.toInt = i) (hk : k.toInt = i) : z = k := Int32.toInt_inj.mp (h.trans hk.symm)
theorem own_max (x : Int32) : 0 ≤ (x &&& 2147483647).toInt := (c_andS x 2147483647).2.2 (by decide)
theorem own_rem (x : Int32) {n : Int32} {k : Int} (hk : n.toInt = k) (h0 : 0 < k) : 0 ≤ ((x &&& 2147483647) % n).toInt ∧ ((x &&& 2147483647) % n).toInt < k := by
  rw [(c_irem (x &&& 2147483647) n k hk).1 (own_max x)]
  exact ⟨Int.emod_nonneg _ (by omega), Int.emod_lt_of_pos _ h0⟩
variable {x k : Int32} {m : Int}
theorem own_ltI (hk : k.toInt = m) (h : x.toInt < m) : x < k := by rw [Int32.lt_iff_toInt_lt, hk]; exact h
theorem own_nltI (hk : k.toInt = m) (h : ¬ x.toInt < m) : ¬ (x < k) := by rw [Int32.lt_iff_toInt_lt, hk]; exact h
theorem own_gtI (hk : k.toInt = m) (h : m < x.toInt) : k < x := by rw [Int32.lt_iff_toInt_lt, hk]; exact h
theorem own_ngtI (hk : k.toInt = m) (h : ¬ m < x.toInt) : ¬ (k < x) := by rw [Int32.lt_iff_toInt_lt, hk]; exact h
theorem own_eqI (hk : k.toInt = m) (h : x.toInt = m) : x = k := own_lit h hk
theorem own_neI (hk : k.toInt = m) (h : x.toInt ≠ m) : ¬ (x = k) := fun q => h (by rw [q]; exact hk)
theorem own_ltE (hk : k.toInt = m) (h : x < k) : x.toInt < m := by rw [Int32.lt_iff_toInt_lt, hk] at h; exact h
theorem own_nltE (hk : k.toInt = m) (h : ¬ (x < k)) : ¬ x.toInt < m := by rw [Int32.lt_iff_toInt_lt, hk] at h; exact h
theorem own_gtE (hk : k.toInt = m) (h : k < x) : m < x.toInt := by rw [Int32.lt_iff_toInt_lt, hk] at h; exact h
theorem own_ngtE (hk : k.toInt = m) (h : ¬ (k < x)) : ¬ m < x.toInt := by rw [Int32.lt_iff_toInt_lt, hk] at h; exact h
theorem own_eqE (hk : k.toInt = m) (h : x = k) : x.toInt = m := by rw [h]; exact hk
theorem own_neE (hk : k.toInt = m) (h : ¬ (x = k)) : x.toInt ≠ m := fun q => h (own_lit q hk)
theorem own_some {a b : Int32} (h : a = b) : some (Value.int a) = some (Value.int b) := by rw [h]
theorem own_if1 {P : Prop} [Decidable P] (h : P) : (1 : Int32) = if P then 1 else 0 := (if_pos h).symm
theorem own_if0 {P : Prop} [Decidable P] (h : ¬ P) : (0 : Int32) = if P then 1 else 0 := (if_neg h).symm
theorem own_nar {P : Prop} [Decidable P] : nar .boolean (if P then (1 : Int32) else 0) = if P then 1 else 0 := by split <;> rfl
end Start
def inS (x : Int32) : Int32 := if (65 ≤ x.toInt ∧ x.toInt ≤ 90) ∨ (95 ≤ x.toInt ∧ x.toInt ≤ 95) ∨ (97 ≤ x.toInt ∧ x.toInt ≤ 122) ∨ (192 ≤ x.toInt ∧ x.toInt ≤ 214) ∨ (216 ≤ x.toInt ∧ x.toInt ≤ 246) ∨ (248 ≤ x.toInt ∧ x.toInt ≤ 767) ∨ (880 ≤ x.toInt ∧ x.toInt ≤ 893) ∨ (895 ≤ x.toInt ∧ x.toInt ≤ 8191) ∨ (8204 ≤ x.toInt ∧ x.toInt ≤ 8205) ∨ (8304 ≤ x.toInt ∧ x.toInt ≤ 8591) ∨ (11264 ≤ x.toInt ∧ x.toInt ≤ 12271) ∨ (12289 ≤ x.toInt ∧ x.toInt ≤ 55295) ∨ (63744 ≤ x.toInt ∧ x.toInt ≤ 64975) ∨ (65008 ≤ x.toInt ∧ x.toInt ≤ 65533) ∨ (65536 ≤ x.toInt ∧ x.toInt ≤ 983039) then 1 else 0
def inL (x : Int32) : Int32 := if (45 ≤ x.toInt ∧ x.toInt ≤ 46) ∨ (48 ≤ x.toInt ∧ x.toInt ≤ 57) ∨ (183 ≤ x.toInt ∧ x.toInt ≤ 183) ∨ (768 ≤ x.toInt ∧ x.toInt ≤ 879) ∨ (8255 ≤ x.toInt ∧ x.toInt ≤ 8256) then 1 else 0
def nameB (x : Int32) : Int32 := if (65 ≤ x.toInt ∧ x.toInt ≤ 90) ∨ (95 ≤ x.toInt ∧ x.toInt ≤ 95) ∨ (97 ≤ x.toInt ∧ x.toInt ≤ 122) ∨ (192 ≤ x.toInt ∧ x.toInt ≤ 214) ∨ (216 ≤ x.toInt ∧ x.toInt ≤ 246) ∨ (248 ≤ x.toInt ∧ x.toInt ≤ 767) ∨ (880 ≤ x.toInt ∧ x.toInt ≤ 893) ∨ (895 ≤ x.toInt ∧ x.toInt ≤ 8191) ∨ (8204 ≤ x.toInt ∧ x.toInt ≤ 8205) ∨ (8304 ≤ x.toInt ∧ x.toInt ≤ 8591) ∨ (11264 ≤ x.toInt ∧ x.toInt ≤ 12271) ∨ (12289 ≤ x.toInt ∧ x.toInt ≤ 55295) ∨ (63744 ≤ x.toInt ∧ x.toInt ≤ 64975) ∨ (65008 ≤ x.toInt ∧ x.toInt ≤ 65533) ∨ (65536 ≤ x.toInt ∧ x.toInt ≤ 983039) ∨ (45 ≤ x.toInt ∧ x.toInt ≤ 46) ∨ (48 ≤ x.toInt ∧ x.toInt ≤ 57) ∨ (183 ≤ x.toInt ∧ x.toInt ≤ 183) ∨ (768 ≤ x.toInt ∧ x.toInt ≤ 879) ∨ (8255 ≤ x.toInt ∧ x.toInt ≤ 8256) then 1 else 0
theorem inS_01 (x : Int32) : inS x = 1 ∨ inS x = 0 := by unfold inS; split <;> simp
theorem inL_01 (x : Int32) : inL x = 1 ∨ inL x = 0 := by unfold inL; split <;> simp
theorem nameB_01 (x : Int32) : nameB x = 1 ∨ nameB x = 0 := by unfold nameB; split <;> simp
theorem nameS (x : Int32) (h : inS x = 1) : 1 = nameB x := by
  unfold inS at h; unfold nameB; split at h
  · exact own_if1 (by omega)
  · exact absurd h (by decide)
theorem nameL (x : Int32) (h : inL x = 1) : 1 = nameB x := by
  unfold inL at h; unfold nameB; split at h
  · exact own_if1 (by omega)
  · exact absurd h (by decide)
theorem name0 (x : Int32) (h : inS x = 0) (h' : inL x = 0) : 0 = nameB x := by
  unfold inS at h; unfold inL at h'; unfold nameB
  split at h
  · exact absurd h (by decide)
  · split at h'
    · exact absurd h' (by decide)
    · exact own_if0 (by omega)
theorem arv_int {Z : State} {h : Heap} {a : Addr} {kA : ClassId} {n j : Int32} {vs : List Value} {dv : Value} (A : Arv Z h a kA .int n vs dv) (hj : ¬ j < 0 ∧ j < n) : ∃ z, vs.getD j.toNatClampNeg dv = .int z := by
  obtain ⟨cl, Ar, -, Sz, Nn, H, G⟩ := A
  have hin := inb_of Sz hj
  exact fit_I (G _ (Nat.lt_of_not_le fun q => hin (Or.inr q))) (Or.inl rfl)
def Hyp (Z : State) (a0 : Array Value) : Prop := (∀ d ∈ tables_1, d.before a0 Z = true) ∧ narrow_1.value a0 Z none Z [] = some true ∧ Fit Z
section Facts
variable {Z : State} {a0 : Array Value}
theorem w0 (H : Hyp Z a0) : (Jvm.Cond.arrayClass Jvm.ClassFile.FieldType.int).before a0 Z = true := H.1 _ (List.mem_of_getElem? (i := 0) rfl)
theorem w1 (H : Hyp Z a0) : (Jvm.Cond.constant "com/example/annotable/annotable/XmlNamesIsNameCharPinLaw" (8 : Nat) (55295 : Int32)).before a0 Z = true := H.1 _ (List.mem_of_getElem? (i := 1) rfl)
theorem w2 (H : Hyp Z a0) : (Jvm.Cond.constant "com/example/annotable/annotable/XmlNamesIsNameCharPinLaw" (9 : Nat) (63744 : Int32)).before a0 Z = true := H.1 _ (List.mem_of_getElem? (i := 2) rfl)
theorem w3 (H : Hyp Z a0) : (Jvm.Cond.constant "com/example/annotable/annotable/XmlNamesIsNameCharPinLaw" (10 : Nat) (64975 : Int32)).before a0 Z = true := H.1 _ (List.mem_of_getElem? (i := 3) rfl)
theorem w4 (H : Hyp Z a0) : (Jvm.Cond.constant "com/example/annotable/annotable/XmlNamesIsNameCharPinLaw" (11 : Nat) (65008 : Int32)).before a0 Z = true := H.1 _ (List.mem_of_getElem? (i := 4) rfl)
theorem w5 (H : Hyp Z a0) : (Jvm.Cond.constant "com/example/annotable/annotable/XmlNamesIsNameCharPinLaw" (12 : Nat) (65533 : Int32)).before a0 Z = true := H.1 _ (List.mem_of_getElem? (i := 5) rfl)
theorem w6 (H : Hyp Z a0) : (Jvm.Cond.constant "com/example/annotable/annotable/XmlNamesIsNameCharPinLaw" (7 : Nat) (65536 : Int32)).before a0 Z = true := H.1 _ (List.mem_of_getElem? (i := 6) rfl)
theorem w7 (H : Hyp Z a0) : (Jvm.Cond.constant "com/example/annotable/annotable/XmlNamesIsNameCharPinLaw" (13 : Nat) (983039 : Int32)).before a0 Z = true := H.1 _ (List.mem_of_getElem? (i := 7) rfl)
theorem w8 (H : Hyp Z a0) : (Jvm.Cond.constant "com/example/annotable/annotable/XmlNamesIsNameCharPinLaw" (16 : Nat) (-2147483648 : Int32)).before a0 Z = true := H.1 _ (List.mem_of_getElem? (i := 8) rfl)
theorem w9 (H : Hyp Z a0) : (Jvm.Cond.constant "com/example/annotable/annotable/XmlNamesIsNameCharPinLaw" (17 : Nat) (2147483647 : Int32)).before a0 Z = true := H.1 _ (List.mem_of_getElem? (i := 9) rfl)
theorem w10 (H : Hyp Z a0) : (Jvm.Cond.constant "com/example/annotable/annotable/XmlNamesIsNameCharPinLaw" (18 : Nat) (1114112 : Int32)).before a0 Z = true := H.1 _ (List.mem_of_getElem? (i := 10) rfl)
theorem w11 (H : Hyp Z a0) : (Jvm.Cond.methodLink "com/example/annotable/annotable/XmlNamesIsNameCharPinLaw" (19 : Nat) ({ cls := "com/example/annotable/annotable/XmlNames", name := "isNameChar", desc := "(I)Z" } : Jvm.MethodName)).before a0 Z = true := H.1 _ (List.mem_of_getElem? (i := 11) rfl)
theorem w12 (H : Hyp Z a0) : (Jvm.Cond.static ({ cls := "com/example/annotable/annotable/XmlNames", name := "isNameChar", desc := "(I)Z" } : Jvm.MethodName)).before a0 Z = true := H.1 _ (List.mem_of_getElem? (i := 12) rfl)
theorem w13 (H : Hyp Z a0) : (Jvm.Cond.initialized "com/example/annotable/annotable/XmlNames").before a0 Z = true := H.1 _ (List.mem_of_getElem? (i := 13) rfl)
theorem w14 (H : Hyp Z a0) : (Jvm.Cond.code ({ cls := "com/example/annotable/annotable/XmlNames", name := "isNameChar", desc := "(I)Z" } : Jvm.MethodName) prog_49_method_3_code (1 : Nat) (Option.some Jvm.ClassFile.FieldType.boolean)).before a0 Z = true := H.1 _ (List.mem_of_getElem? (i := 14) rfl)
theorem w15 (H : Hyp Z a0) : (Jvm.Cond.fieldLink "com/example/annotable/annotable/XmlNames" (7 : Nat) "com/example/annotable/annotable/XmlNames" "START" "[I").before a0 Z = true := H.1 _ (List.mem_of_getElem? (i := 15) rfl)
theorem w16 (H : Hyp Z a0) : (Jvm.Cond.laysStatic "com/example/annotable/annotable/XmlNames" "START" "[I").before a0 Z = true := H.1 _ (List.mem_of_getElem? (i := 16) rfl)
theorem w17 (H : Hyp Z a0) : (Jvm.Cond.methodLink "com/example/annotable/annotable/XmlNames" (13 : Nat) ({ cls := "com/example/annotable/annotable/XmlNames", name := "in", desc := "([II)Z" } : Jvm.MethodName)).before a0 Z = true := H.1 _ (List.mem_of_getElem? (i := 17) rfl)
theorem w18 (H : Hyp Z a0) : (Jvm.Cond.static ({ cls := "com/example/annotable/annotable/XmlNames", name := "in", desc := "([II)Z" } : Jvm.MethodName)).before a0 Z = true := H.1 _ (List.mem_of_getElem? (i := 18) rfl)
theorem w19 (H : Hyp Z a0) : (Jvm.Cond.code ({ cls := "com/example/annotable/annotable/XmlNames", name := "in", desc := "([II)Z" } : Jvm.MethodName) prog_49_method_9_code (3 : Nat) (Option.some Jvm.ClassFile.FieldType.boolean)).before a0 Z = true := H.1 _ (List.mem_of_getElem? (i := 19) rfl)
theorem w20 (H : Hyp Z a0) : (Jvm.Cond.fieldLink "com/example/annotable/annotable/XmlNames" (17 : Nat) "com/example/annotable/annotable/XmlNames" "LATER" "[I").before a0 Z = true := H.1 _ (List.mem_of_getElem? (i := 20) rfl)
theorem w21 (H : Hyp Z a0) : (Jvm.Cond.laysStatic "com/example/annotable/annotable/XmlNames" "LATER" "[I").before a0 Z = true := H.1 _ (List.mem_of_getElem? (i := 21) rfl)
theorem w22 (H : Hyp Z a0) : (Jvm.Cond.methodLink "com/example/annotable/annotable/XmlNamesIsNameCharPinLaw" (25 : Nat) ({ cls := "com/example/annotable/annotable/XmlNamesIsNameCharPinLaw", name := "ref", desc := "(I)Z" } : Jvm.MethodName)).before a0 Z = true := H.1 _ (List.mem_of_getElem? (i := 22) rfl)
theorem w23 (H : Hyp Z a0) : (Jvm.Cond.static ({ cls := "com/example/annotable/annotable/XmlNamesIsNameCharPinLaw", name := "ref", desc := "(I)Z" } : Jvm.MethodName)).before a0 Z = true := H.1 _ (List.mem_of_getElem? (i := 23) rfl)
theorem w24 (H : Hyp Z a0) : (Jvm.Cond.initialized "com/example/annotable/annotable/XmlNamesIsNameCharPinLaw").before a0 Z = true := H.1 _ (List.mem_of_getElem? (i := 24) rfl)
theorem w25 (H : Hyp Z a0) : (Jvm.Cond.code ({ cls := "com/example/annotable/annotable/XmlNamesIsNameCharPinLaw", name := "ref", desc := "(I)Z" } : Jvm.MethodName) method_2_code (1 : Nat) (Option.some Jvm.ClassFile.FieldType.boolean)).before a0 Z = true := H.1 _ (List.mem_of_getElem? (i := 25) rfl)
theorem n0 (H : Hyp Z a0) : (Jvm.Cond.arrayOf (Jvm.Term.static "com/example/annotable/annotable/XmlNames" "START" "[I") Jvm.ClassFile.FieldType.int).value a0 Z none Z [] = some true := (and_e H.2.1).1
theorem n1 (H : Hyp Z a0) : (Jvm.Cond.eq (Jvm.Term.length (Jvm.Term.static "com/example/annotable/annotable/XmlNames" "START" "[I")) (Jvm.Term.int (30 : Int32))).value a0 Z none Z [] = some true := (and_e (and_e H.2.1).2).1
theorem n2 (H : Hyp Z a0) : (Jvm.Cond.arrayOf (Jvm.Term.static "com/example/annotable/annotable/XmlNames" "LATER" "[I") Jvm.ClassFile.FieldType.int).value a0 Z none Z [] = some true := (and_e (and_e (and_e H.2.1).2).2).1
theorem n3 (H : Hyp Z a0) : (Jvm.Cond.eq (Jvm.Term.length (Jvm.Term.static "com/example/annotable/annotable/XmlNames" "LATER" "[I")) (Jvm.Term.int (10 : Int32))).value a0 Z none Z [] = some true := (and_e (and_e (and_e (and_e H.2.1).2).2).2).1
theorem n4 (H : Hyp Z a0) : (Jvm.Cond.eq (Jvm.Term.elem (Jvm.Term.static "com/example/annotable/annotable/XmlNames" "START" "[I") (Jvm.Term.int (0 : Int32))) (Jvm.Term.int (65 : Int32))).value a0 Z none Z [] = some true := (and_e (and_e (and_e (and_e (and_e H.2.1).2).2).2).2).1
theorem n5 (H : Hyp Z a0) : (Jvm.Cond.eq (Jvm.Term.elem (Jvm.Term.static "com/example/annotable/annotable/XmlNames" "START" "[I") (Jvm.Term.int (1 : Int32))) (Jvm.Term.int (90 : Int32))).value a0 Z none Z [] = some true := (and_e (and_e (and_e (and_e (and_e (and_e H.2.1).2).2).2).2).2).1
theorem n6 (H : Hyp Z a0) : (Jvm.Cond.eq (Jvm.Term.elem (Jvm.Term.static "com/example/annotable/annotable/XmlNames" "START" "[I") (Jvm.Term.int (2 : Int32))) (Jvm.Term.int (95 : Int32))).value a0 Z none Z [] = some true := (and_e (and_e (and_e (and_e (and_e (and_e (and_e H.2.1).2).2).2).2).2).2).1
theorem n7 (H : Hyp Z a0) : (Jvm.Cond.eq (Jvm.Term.elem (Jvm.Term.static "com/example/annotable/annotable/XmlNames" "START" "[I") (Jvm.Term.int (3 : Int32))) (Jvm.Term.int (95 : Int32))).value a0 Z none Z [] = some true := (and_e (and_e (and_e (and_e (and_e (and_e (and_e (and_e H.2.1).2).2).2).2).2).2).2).1
theorem n8 (H : Hyp Z a0) : (Jvm.Cond.eq (Jvm.Term.elem (Jvm.Term.static "com/example/annotable/annotable/XmlNames" "START" "[I") (Jvm.Term.int (4 : Int32))) (Jvm.Term.int (97 : Int32))).value a0 Z none Z [] = some true := (and_e (and_e (and_e (and_e (and_e (and_e (and_e (and_e (and_e H.2.1).2).2).2).2).2).2).2).2).1
theorem n9 (H : Hyp Z a0) : (Jvm.Cond.eq (Jvm.Term.elem (Jvm.Term.static "com/example/annotable/annotable/XmlNames" "START" "[I") (Jvm.Term.int (5 : Int32))) (Jvm.Term.int (122 : Int32))).value a0 Z none Z [] = some true := (and_e (and_e (and_e (and_e (and_e (and_e (and_e (and_e (and_e (and_e H.2.1).2).2).2).2).2).2).2).2).2).1
theorem n10 (H : Hyp Z a0) : (Jvm.Cond.eq (Jvm.Term.elem (Jvm.Term.static "com/example/annotable/annotable/XmlNames" "START" "[I") (Jvm.Term.int (6 : Int32))) (Jvm.Term.int (192 : Int32))).value a0 Z none Z [] = some true := (and_e (and_e (and_e (and_e (and_e (and_e (and_e (and_e (and_e (and_e (and_e H.2.1).2).2).2).2).2).2).2).2).2).2).1
theorem n11 (H : Hyp Z a0) : (Jvm.Cond.eq (Jvm.Term.elem (Jvm.Term.static "com/example/annotable/annotable/XmlNames" "START" "[I") (Jvm.Term.int (7 : Int32))) (Jvm.Term.int (214 : Int32))).value a0 Z none Z [] = some true := (and_e (and_e (and_e (and_e (and_e (and_e (and_e (and_e (and_e (and_e (and_e (and_e H.2.1).2).2).2).2).2).2).2).2).2).2).2).1
theorem n12 (H : Hyp Z a0) : (Jvm.Cond.eq (Jvm.Term.elem (Jvm.Term.static "com/example/annotable/annotable/XmlNames" "START" "[I") (Jvm.Term.int (8 : Int32))) (Jvm.Term.int (216 : Int32))).value a0 Z none Z [] = some true := (and_e (and_e (and_e (and_e (and_e (and_e (and_e (and_e (and_e (and_e (and_e (and_e (and_e H.2.1).2).2).2).2).2).2).2).2).2).2).2).2).1
theorem n13 (H : Hyp Z a0) : (Jvm.Cond.eq (Jvm.Term.elem (Jvm.Term.static "com/example/annotable/annotable/XmlNames" "START" "[I") (Jvm.Term.int (9 : Int32))) (Jvm.Term.int (246 : Int32))).value a0 Z none Z [] = some true := (and_e (and_e (and_e (and_e (and_e (and_e (and_e (and_e (and_e (and_e (and_e (and_e (and_e (and_e H.2.1).2).2).2).2).2).2).2).2).2).2).2).2).2).1
theorem n14 (H : Hyp Z a0) : (Jvm.Cond.eq (Jvm.Term.elem (Jvm.Term.static "com/example/annotable/annotable/XmlNames" "START" "[I") (Jvm.Term.int (10 : Int32))) (Jvm.Term.int (248 : Int32))).value a0 Z none Z [] = some true := (and_e (and_e (and_e (and_e (and_e (and_e (and_e (and_e (and_e (and_e (and_e (and_e (and_e (and_e (and_e H.2.1).2).2).2).2).2).2).2).2).2).2).2).2).2).2).1
theorem n15 (H : Hyp Z a0) : (Jvm.Cond.eq (Jvm.Term.elem (Jvm.Term.static "com/example/annotable/annotable/XmlNames" "START" "[I") (Jvm.Term.int (11 : Int32))) (Jvm.Term.int (767 : Int32))).value a0 Z none Z [] = some true := (and_e (and_e (and_e (and_e (and_e (and_e (and_e (and_e (and_e (and_e (and_e (and_e (and_e (and_e (and_e (and_e H.2.1).2).2).2).2).2).2).2).2).2).2).2).2).2).2).2).1
theorem n16 (H : Hyp Z a0) : (Jvm.Cond.eq (Jvm.Term.elem (Jvm.Term.static "com/example/annotable/annotable/XmlNames" "START" "[I") (Jvm.Term.int (12 : Int32))) (Jvm.Term.int (880 : Int32))).value a0 Z none Z [] = some true := (and_e (and_e (and_e (and_e (and_e (and_e (and_e (and_e (and_e (and_e (and_e (and_e (and_e (and_e (and_e (and_e (and_e H.2.1).2).2).2).2).2).2).2).2).2).2).2).2).2).2).2).2).1
theorem n17 (H : Hyp Z a0) : (Jvm.Cond.eq (Jvm.Term.elem (Jvm.Term.static "com/example/annotable/annotable/XmlNames" "START" "[I") (Jvm.Term.int (13 : Int32))) (Jvm.Term.int (893 : Int32))).value a0 Z none Z [] = some true := (and_e (and_e (and_e (and_e (and_e (and_e (and_e (and_e (and_e (and_e (and_e (and_e (and_e (and_e (and_e (and_e (and_e (and_e H.2.1).2).2).2).2).2).2).2).2).2).2).2).2).2).2).2).2).2).1
theorem n18 (H : Hyp Z a0) : (Jvm.Cond.eq (Jvm.Term.elem (Jvm.Term.static "com/example/annotable/annotable/XmlNames" "START" "[I") (Jvm.Term.int (14 : Int32))) (Jvm.Term.int (895 : Int32))).value a0 Z none Z [] = some true := (and_e (and_e (and_e (and_e (and_e (and_e (and_e (and_e (and_e (and_e (and_e (and_e (and_e (and_e (and_e (and_e (and_e (and_e (and_e H.2.1).2).2).2).2).2).2).2).2).2).2).2).2).2).2).2).2).2).2).1
theorem n19 (H : Hyp Z a0) : (Jvm.Cond.eq (Jvm.Term.elem (Jvm.Term.static "com/example/annotable/annotable/XmlNames" "START" "[I") (Jvm.Term.int (15 : Int32))) (Jvm.Term.int (8191 : Int32))).value a0 Z none Z [] = some true := (and_e (and_e (and_e (and_e (and_e (and_e (and_e (and_e (and_e (and_e (and_e (and_e (and_e (and_e (and_e (and_e (and_e (and_e (and_e (and_e H.2.1).2).2).2).2).2).2).2).2).2).2).2).2).2).2).2).2).2).2).2).1
theorem n20 (H : Hyp Z a0) : (Jvm.Cond.eq (Jvm.Term.elem (Jvm.Term.static "com/example/annotable/annotable/XmlNames" "START" "[I") (Jvm.Term.int (16 : Int32))) (Jvm.Term.int (8204 : Int32))).value a0 Z none Z [] = some true := (and_e (and_e (and_e (and_e (and_e (and_e (and_e (and_e (and_e (and_e (and_e (and_e (and_e (and_e (and_e (and_e (and_e (and_e (and_e (and_e (and_e H.2.1).2).2).2).2).2).2).2).2).2).2).2).2).2).2).2).2).2).2).2).2).1
theorem n21 (H : Hyp Z a0) : (Jvm.Cond.eq (Jvm.Term.elem (Jvm.Term.static "com/example/annotable/annotable/XmlNames" "START" "[I") (Jvm.Term.int (17 : Int32))) (Jvm.Term.int (8205 : Int32))).value a0 Z none Z [] = some true := (and_e (and_e (and_e (and_e (and_e (and_e (and_e (and_e (and_e (and_e (and_e (and_e (and_e (and_e (and_e (and_e (and_e (and_e (and_e (and_e (and_e (and_e H.2.1).2).2).2).2).2).2).2).2).2).2).2).2).2).2).2).2).2).2).2).2).2).1
theorem n22 (H : Hyp Z a0) : (Jvm.Cond.eq (Jvm.Term.elem (Jvm.Term.static "com/example/annotable/annotable/XmlNames" "START" "[I") (Jvm.Term.int (18 : Int32))) (Jvm.Term.int (8304 : Int32))).value a0 Z none Z [] = some true := (and_e (and_e (and_e (and_e (and_e (and_e (and_e (and_e (and_e (and_e (and_e (and_e (and_e (and_e (and_e (and_e (and_e (and_e (and_e (and_e (and_e (and_e (and_e H.2.1).2).2).2).2).2).2).2).2).2).2).2).2).2).2).2).2).2).2).2).2).2).2).1
theorem n23 (H : Hyp Z a0) : (Jvm.Cond.eq (Jvm.Term.elem (Jvm.Term.static "com/example/annotable/annotable/XmlNames" "START" "[I") (Jvm.Term.int (19 : Int32))) (Jvm.Term.int (8591 : Int32))).value a0 Z none Z [] = some true := (and_e (and_e (and_e (and_e (and_e (and_e (and_e (and_e (and_e (and_e (and_e (and_e (and_e (and_e (and_e (and_e (and_e (and_e (and_e (and_e (and_e (and_e (and_e (and_e H.2.1).2).2).2).2).2).2).2).2).2).2).2).2).2).2).2).2).2).2).2).2).2).2).2).1
theorem n24 (H : Hyp Z a0) : (Jvm.Cond.eq (Jvm.Term.elem (Jvm.Term.static "com/example/annotable/annotable/XmlNames" "START" "[I") (Jvm.Term.int (20 : Int32))) (Jvm.Term.int (11264 : Int32))).value a0 Z none Z [] = some true := (and_e (and_e (and_e (and_e (and_e (and_e (and_e (and_e (and_e (and_e (and_e (and_e (and_e (and_e (and_e (and_e (and_e (and_e (and_e (and_e (and_e (and_e (and_e (and_e (and_e H.2.1).2).2).2).2).2).2).2).2).2).2).2).2).2).2).2).2).2).2).2).2).2).2).2).2).1
theorem n25 (H : Hyp Z a0) : (Jvm.Cond.eq (Jvm.Term.elem (Jvm.Term.static "com/example/annotable/annotable/XmlNames" "START" "[I") (Jvm.Term.int (21 : Int32))) (Jvm.Term.int (12271 : Int32))).value a0 Z none Z [] = some true := (and_e (and_e (and_e (and_e (and_e (and_e (and_e (and_e (and_e (and_e (and_e (and_e (and_e (and_e (and_e (and_e (and_e (and_e (and_e (and_e (and_e (and_e (and_e (and_e (and_e (and_e H.2.1).2).2).2).2).2).2).2).2).2).2).2).2).2).2).2).2).2).2).2).2).2).2).2).2).2).1
theorem n26 (H : Hyp Z a0) : (Jvm.Cond.eq (Jvm.Term.elem (Jvm.Term.static "com/example/annotable/annotable/XmlNames" "START" "[I") (Jvm.Term.int (22 : Int32))) (Jvm.Term.int (12289 : Int32))).value a0 Z none Z [] = some true := (and_e (and_e (and_e (and_e (and_e (and_e (and_e (and_e (and_e (and_e (and_e (and_e (and_e (and_e (and_e (and_e (and_e (and_e (and_e (and_e (and_e (and_e (and_e (and_e (and_e (and_e (and_e H.2.1).2).2).2).2).2).2).2).2).2).2).2).2).2).2).2).2).2).2).2).2).2).2).2).2).2).2).1
theorem n27 (H : Hyp Z a0) : (Jvm.Cond.eq (Jvm.Term.elem (Jvm.Term.static "com/example/annotable/annotable/XmlNames" "START" "[I") (Jvm.Term.int (23 : Int32))) (Jvm.Term.int (55295 : Int32))).value a0 Z none Z [] = some true := (and_e (and_e (and_e (and_e (and_e (and_e (and_e (and_e (and_e (and_e (and_e (and_e (and_e (and_e (and_e (and_e (and_e (and_e (and_e (and_e (and_e (and_e (and_e (and_e (and_e (and_e (and_e (and_e H.2.1).2).2).2).2).2).2).2).2).2).2).2).2).2).2).2).2).2).2).2).2).2).2).2).2).2).2).2).1
theorem n28 (H : Hyp Z a0) : (Jvm.Cond.eq (Jvm.Term.elem (Jvm.Term.static "com/example/annotable/annotable/XmlNames" "START" "[I") (Jvm.Term.int (24 : Int32))) (Jvm.Term.int (63744 : Int32))).value a0 Z none Z [] = some true := (and_e (and_e (and_e (and_e (and_e (and_e (and_e (and_e (and_e (and_e (and_e (and_e (and_e (and_e (and_e (and_e (and_e (and_e (and_e (and_e (and_e (and_e (and_e (and_e (and_e (and_e (and_e (and_e (and_e H.2.1).2).2).2).2).2).2).2).2).2).2).2).2).2).2).2).2).2).2).2).2).2).2).2).2).2).2).2).2).1
theorem n29 (H : Hyp Z a0) : (Jvm.Cond.eq (Jvm.Term.elem (Jvm.Term.static "com/example/annotable/annotable/XmlNames" "START" "[I") (Jvm.Term.int (25 : Int32))) (Jvm.Term.int (64975 : Int32))).value a0 Z none Z [] = some true := (and_e (and_e (and_e (and_e (and_e (and_e (and_e (and_e (and_e (and_e (and_e (and_e (and_e (and_e (and_e (and_e (and_e (and_e (and_e (and_e (and_e (and_e (and_e (and_e (and_e (and_e (and_e (and_e (and_e (and_e H.2.1).2).2).2).2).2).2).2).2).2).2).2).2).2).2).2).2).2).2).2).2).2).2).2).2).2).2).2).2).2).1
theorem n30 (H : Hyp Z a0) : (Jvm.Cond.eq (Jvm.Term.elem (Jvm.Term.static "com/example/annotable/annotable/XmlNames" "START" "[I") (Jvm.Term.int (26 : Int32))) (Jvm.Term.int (65008 : Int32))).value a0 Z none Z [] = some true := (and_e (and_e (and_e (and_e (and_e (and_e (and_e (and_e (and_e (and_e (and_e (and_e (and_e (and_e (and_e (and_e (and_e (and_e (and_e (and_e (and_e (and_e (and_e (and_e (and_e (and_e (and_e (and_e (and_e (and_e (and_e H.2.1).2).2).2).2).2).2).2).2).2).2).2).2).2).2).2).2).2).2).2).2).2).2).2).2).2).2).2).2).2).2).1
theorem n31 (H : Hyp Z a0) : (Jvm.Cond.eq (Jvm.Term.elem (Jvm.Term.static "com/example/annotable/annotable/XmlNames" "START" "[I") (Jvm.Term.int (27 : Int32))) (Jvm.Term.int (65533 : Int32))).value a0 Z none Z [] = some true := (and_e (and_e (and_e (and_e (and_e (and_e (and_e (and_e (and_e (and_e (and_e (and_e (and_e (and_e (and_e (and_e (and_e (and_e (and_e (and_e (and_e (and_e (and_e (and_e (and_e (and_e (and_e (and_e (and_e (and_e (and_e (and_e H.2.1).2).2).2).2).2).2).2).2).2).2).2).2).2).2).2).2).2).2).2).2).2).2).2).2).2).2).2).2).2).2).2).1
theorem n32 (H : Hyp Z a0) : (Jvm.Cond.eq (Jvm.Term.elem (Jvm.Term.static "com/example/annotable/annotable/XmlNames" "START" "[I") (Jvm.Term.int (28 : Int32))) (Jvm.Term.int (65536 : Int32))).value a0 Z none Z [] = some true := (and_e (and_e (and_e (and_e (and_e (and_e (and_e (and_e (and_e (and_e (and_e (and_e (and_e (and_e (and_e (and_e (and_e (and_e (and_e (and_e (and_e (and_e (and_e (and_e (and_e (and_e (and_e (and_e (and_e (and_e (and_e (and_e (and_e H.2.1).2).2).2).2).2).2).2).2).2).2).2).2).2).2).2).2).2).2).2).2).2).2).2).2).2).2).2).2).2).2).2).2).1
theorem n33 (H : Hyp Z a0) : (Jvm.Cond.eq (Jvm.Term.elem (Jvm.Term.static "com/example/annotable/annotable/XmlNames" "START" "[I") (Jvm.Term.int (29 : Int32))) (Jvm.Term.int (983039 : Int32))).value a0 Z none Z [] = some true := (and_e (and_e (and_e (and_e (and_e (and_e (and_e (and_e (and_e (and_e (and_e (and_e (and_e (and_e (and_e (and_e (and_e (and_e (and_e (and_e (and_e (and_e (and_e (and_e (and_e (and_e (and_e (and_e (and_e (and_e (and_e (and_e (and_e (and_e H.2.1).2).2).2).2).2).2).2).2).2).2).2).2).2).2).2).2).2).2).2).2).2).2).2).2).2).2).2).2).2).2).2).2).2).1
theorem n34 (H : Hyp Z a0) : (Jvm.Cond.eq (Jvm.Term.elem (Jvm.Term.static "com/example/annotable/annotable/XmlNames" "LATER" "[I") (Jvm.Term.int (0 : Int32))) (Jvm.Term.int (45 : Int32))).value a0 Z none Z [] = some true := (and_e (and_e (and_e (and_e (and_e (and_e (and_e (and_e (and_e (and_e (and_e (and_e (and_e (and_e (and_e (and_e (and_e (and_e (and_e (and_e (and_e (and_e (and_e (and_e (and_e (and_e (and_e (and_e (and_e (and_e (and_e (and_e (and_e (and_e (and_e H.2.1).2).2).2).2).2).2).2).2).2).2).2).2).2).2).2).2).2).2).2).2).2).2).2).2).2).2).2).2).2).2).2).2).2).2).1
theorem n35 (H : Hyp Z a0) : (Jvm.Cond.eq (Jvm.Term.elem (Jvm.Term.static "com/example/annotable/annotable/XmlNames" "LATER" "[I") (Jvm.Term.int (1 : Int32))) (Jvm.Term.int (46 : Int32))).value a0 Z none Z [] = some true := (and_e (and_e (and_e (and_e (and_e (and_e (and_e (and_e (and_e (and_e (and_e (and_e (and_e (and_e (and_e (and_e (and_e (and_e (and_e (and_e (and_e (and_e (and_e (and_e (and_e (and_e (and_e (and_e (and_e (and_e (and_e (and_e (and_e (and_e (and_e (and_e H.2.1).2).2).2).2).2).2).2).2).2).2).2).2).2).2).2).2).2).2).2).2).2).2).2).2).2).2).2).2).2).2).2).2).2).2).2).1
theorem n36 (H : Hyp Z a0) : (Jvm.Cond.eq (Jvm.Term.elem (Jvm.Term.static "com/example/annotable/annotable/XmlNames" "LATER" "[I") (Jvm.Term.int (2 : Int32))) (Jvm.Term.int (48 : Int32))).value a0 Z none Z [] = some true := (and_e (and_e (and_e (and_e (and_e (and_e (and_e (and_e (and_e (and_e (and_e (and_e (and_e (and_e (and_e (and_e (and_e (and_e (and_e (and_e (and_e (and_e (and_e (and_e (and_e (and_e (and_e (and_e (and_e (and_e (and_e (and_e (and_e (and_e (and_e (and_e (and_e H.2.1).2).2).2).2).2).2).2).2).2).2).2).2).2).2).2).2).2).2).2).2).2).2).2).2).2).2).2).2).2).2).2).2).2).2).2).2).1
theorem n37 (H : Hyp Z a0) : (Jvm.Cond.eq (Jvm.Term.elem (Jvm.Term.static "com/example/annotable/annotable/XmlNames" "LATER" "[I") (Jvm.Term.int (3 : Int32))) (Jvm.Term.int (57 : Int32))).value a0 Z none Z [] = some true := (and_e (and_e (and_e (and_e (and_e (and_e (and_e (and_e (and_e (and_e (and_e (and_e (and_e (and_e (and_e (and_e (and_e (and_e (and_e (and_e (and_e (and_e (and_e (and_e (and_e (and_e (and_e (and_e (and_e (and_e (and_e (and_e (and_e (and_e (and_e (and_e (and_e (and_e H.2.1).2).2).2).2).2).2).2).2).2).2).2).2).2).2).2).2).2).2).2).2).2).2).2).2).2).2).2).2).2).2).2).2).2).2).2).2).2).1
theorem n38 (H : Hyp Z a0) : (Jvm.Cond.eq (Jvm.Term.elem (Jvm.Term.static "com/example/annotable/annotable/XmlNames" "LATER" "[I") (Jvm.Term.int (4 : Int32))) (Jvm.Term.int (183 : Int32))).value a0 Z none Z [] = some true := (and_e (and_e (and_e (and_e (and_e (and_e (and_e (and_e (and_e (and_e (and_e (and_e (and_e (and_e (and_e (and_e (and_e (and_e (and_e (and_e (and_e (and_e (and_e (and_e (and_e (and_e (and_e (and_e (and_e (and_e (and_e (and_e (and_e (and_e (and_e (and_e (and_e (and_e (and_e H.2.1).2).2).2).2).2).2).2).2).2).2).2).2).2).2).2).2).2).2).2).2).2).2).2).2).2).2).2).2).2).2).2).2).2).2).2).2).2).2).1
theorem n39 (H : Hyp Z a0) : (Jvm.Cond.eq (Jvm.Term.elem (Jvm.Term.static "com/example/annotable/annotable/XmlNames" "LATER" "[I") (Jvm.Term.int (5 : Int32))) (Jvm.Term.int (183 : Int32))).value a0 Z none Z [] = some true := (and_e (and_e (and_e (and_e (and_e (and_e (and_e (and_e (and_e (and_e (and_e (and_e (and_e (and_e (and_e (and_e (and_e (and_e (and_e (and_e (and_e (and_e (and_e (and_e (and_e (and_e (and_e (and_e (and_e (and_e (and_e (and_e (and_e (and_e (and_e (and_e (and_e (and_e (and_e (and_e H.2.1).2).2).2).2).2).2).2).2).2).2).2).2).2).2).2).2).2).2).2).2).2).2).2).2).2).2).2).2).2).2).2).2).2).2).2).2).2).2).2).1
theorem n40 (H : Hyp Z a0) : (Jvm.Cond.eq (Jvm.Term.elem (Jvm.Term.static "com/example/annotable/annotable/XmlNames" "LATER" "[I") (Jvm.Term.int (6 : Int32))) (Jvm.Term.int (768 : Int32))).value a0 Z none Z [] = some true := (and_e (and_e (and_e (and_e (and_e (and_e (and_e (and_e (and_e (and_e (and_e (and_e (and_e (and_e (and_e (and_e (and_e (and_e (and_e (and_e (and_e (and_e (and_e (and_e (and_e (and_e (and_e (and_e (and_e (and_e (and_e (and_e (and_e (and_e (and_e (and_e (and_e (and_e (and_e (and_e (and_e H.2.1).2).2).2).2).2).2).2).2).2).2).2).2).2).2).2).2).2).2).2).2).2).2).2).2).2).2).2).2).2).2).2).2).2).2).2).2).2).2).2).2).1
theorem n41 (H : Hyp Z a0) : (Jvm.Cond.eq (Jvm.Term.elem (Jvm.Term.static "com/example/annotable/annotable/XmlNames" "LATER" "[I") (Jvm.Term.int (7 : Int32))) (Jvm.Term.int (879 : Int32))).value a0 Z none Z [] = some true := (and_e (and_e (and_e (and_e (and_e (and_e (and_e (and_e (and_e (and_e (and_e (and_e (and_e (and_e (and_e (and_e (and_e (and_e (and_e (and_e (and_e (and_e (and_e (and_e (and_e (and_e (and_e (and_e (and_e (and_e (and_e (and_e (and_e (and_e (and_e (and_e (and_e (and_e (and_e (and_e (and_e (and_e H.2.1).2).2).2).2).2).2).2).2).2).2).2).2).2).2).2).2).2).2).2).2).2).2).2).2).2).2).2).2).2).2).2).2).2).2).2).2).2).2).2).2).2).1
theorem n42 (H : Hyp Z a0) : (Jvm.Cond.eq (Jvm.Term.elem (Jvm.Term.static "com/example/annotable/annotable/XmlNames" "LATER" "[I") (Jvm.Term.int (8 : Int32))) (Jvm.Term.int (8255 : Int32))).value a0 Z none Z [] = some true := (and_e (and_e (and_e (and_e (and_e (and_e (and_e (and_e (and_e (and_e (and_e (and_e (and_e (and_e (and_e (and_e (and_e (and_e (and_e (and_e (and_e (and_e (and_e (and_e (and_e (and_e (and_e (and_e (and_e (and_e (and_e (and_e (and_e (and_e (and_e (and_e (and_e (and_e (and_e (and_e (and_e (and_e (and_e H.2.1).2).2).2).2).2).2).2).2).2).2).2).2).2).2).2).2).2).2).2).2).2).2).2).2).2).2).2).2).2).2).2).2).2).2).2).2).2).2).2).2).2).2).1
theorem n43 (H : Hyp Z a0) : (Jvm.Cond.eq (Jvm.Term.elem (Jvm.Term.static "com/example/annotable/annotable/XmlNames" "LATER" "[I") (Jvm.Term.int (9 : Int32))) (Jvm.Term.int (8256 : Int32))).value a0 Z none Z [] = some true := (and_e (and_e (and_e (and_e (and_e (and_e (and_e (and_e (and_e (and_e (and_e (and_e (and_e (and_e (and_e (and_e (and_e (and_e (and_e (and_e (and_e (and_e (and_e (and_e (and_e (and_e (and_e (and_e (and_e (and_e (and_e (and_e (and_e (and_e (and_e (and_e (and_e (and_e (and_e (and_e (and_e (and_e (and_e H.2.1).2).2).2).2).2).2).2).2).2).2).2).2).2).2).2).2).2).2).2).2).2).2).2).2).2).2).2).2).2).2).2).2).2).2).2).2).2).2).2).2).2).2).2
def ad0 (Z : State) (a0 : Array Value) : Addr := adOf "com/example/annotable/annotable/XmlNames" "START" "[I" Z a0
theorem ev0 (H : Hyp Z a0) : (Jvm.Term.static "com/example/annotable/annotable/XmlNames" "START" "[I").eval a0 Z none [] Z = some (.ref (ad0 Z a0)) := own_ad (arr_v (n0 H))
theorem s0 (H : Hyp Z a0) : Sta Z Z.heap "com/example/annotable/annotable/XmlNames" "START" "[I" (.ref (ad0 Z a0)) := Sta.start (ev0 H) (Or.inr ⟨(w13 H), (w16 H)⟩)
def ad1 (Z : State) (a0 : Array Value) : Addr := adOf "com/example/annotable/annotable/XmlNames" "LATER" "[I" Z a0
theorem ev1 (H : Hyp Z a0) : (Jvm.Term.static "com/example/annotable/annotable/XmlNames" "LATER" "[I").eval a0 Z none [] Z = some (.ref (ad1 Z a0)) := own_ad (arr_v (n2 H))
theorem s1 (H : Hyp Z a0) : Sta Z Z.heap "com/example/annotable/annotable/XmlNames" "LATER" "[I" (.ref (ad1 Z a0)) := Sta.start (ev1 H) (Or.inr ⟨(w13 H), (w21 H)⟩)
theorem v0 (H : Hyp Z a0) : Arv Z Z.heap (ad0 Z a0) (kaOf Z (ad0 Z a0)) .int (30 : Int32) [(.int (65 : Int32)), (.int (90 : Int32)), (.int (95 : Int32)), (.int (95 : Int32)), (.int (97 : Int32)), (.int (122 : Int32)), (.int (192 : Int32)), (.int (214 : Int32)), (.int (216 : Int32)), (.int (246 : Int32)), (.int (248 : Int32)), (.int (767 : Int32)), (.int (880 : Int32)), (.int (893 : Int32)), (.int (895 : Int32)), (.int (8191 : Int32)), (.int (8204 : Int32)), (.int (8205 : Int32)), (.int (8304 : Int32)), (.int (8591 : Int32)), (.int (11264 : Int32)), (.int (12271 : Int32)), (.int (12289 : Int32)), (.int (55295 : Int32)), (.int (63744 : Int32)), (.int (64975 : Int32)), (.int (65008 : Int32)), (.int (65533 : Int32)), (.int (65536 : Int32)), (.int (983039 : Int32))] (.int (0 : Int32)) := own_arv H.2.2 (ev0 H) (n0 H) (n1 H) (by decide) rfl (fun cl hc => ⟨own_el (own_eqint (n4 H)) (ev0 H) hc rfl, own_el (own_eqint (n5 H)) (ev0 H) hc rfl, own_el (own_eqint (n6 H)) (ev0 H) hc rfl, own_el (own_eqint (n7 H)) (ev0 H) hc rfl, own_el (own_eqint (n8 H)) (ev0 H) hc rfl, own_el (own_eqint (n9 H)) (ev0 H) hc rfl, own_el (own_eqint (n10 H)) (ev0 H) hc rfl, own_el (own_eqint (n11 H)) (ev0 H) hc rfl, own_el (own_eqint (n12 H)) (ev0 H) hc rfl, own_el (own_eqint (n13 H)) (ev0 H) hc rfl, own_el (own_eqint (n14 H)) (ev0 H) hc rfl, own_el (own_eqint (n15 H)) (ev0 H) hc rfl, own_el (own_eqint (n16 H)) (ev0 H) hc rfl, own_el (own_eqint (n17 H)) (ev0 H) hc rfl, own_el (own_eqint (n18 H)) (ev0 H) hc rfl, own_el (own_eqint (n19 H)) (ev0 H) hc rfl, own_el (own_eqint (n20 H)) (ev0 H) hc rfl, own_el (own_eqint (n21 H)) (ev0 H) hc rfl, own_el (own_eqint (n22 H)) (ev0 H) hc rfl, own_el (own_eqint (n23 H)) (ev0 H) hc rfl, own_el (own_eqint (n24 H)) (ev0 H) hc rfl, own_el (own_eqint (n25 H)) (ev0 H) hc rfl, own_el (own_eqint (n26 H)) (ev0 H) hc rfl, own_el (own_eqint (n27 H)) (ev0 H) hc rfl, own_el (own_eqint (n28 H)) (ev0 H) hc rfl, own_el (own_eqint (n29 H)) (ev0 H) hc rfl, own_el (own_eqint (n30 H)) (ev0 H) hc rfl, own_el (own_eqint (n31 H)) (ev0 H) hc rfl, own_el (own_eqint (n32 H)) (ev0 H) hc rfl, own_el (own_eqint (n33 H)) (ev0 H) hc rfl, trivial⟩)
theorem v1 (H : Hyp Z a0) : Arv Z Z.heap (ad1 Z a0) (kaOf Z (ad1 Z a0)) .int (10 : Int32) [(.int (45 : Int32)), (.int (46 : Int32)), (.int (48 : Int32)), (.int (57 : Int32)), (.int (183 : Int32)), (.int (183 : Int32)), (.int (768 : Int32)), (.int (879 : Int32)), (.int (8255 : Int32)), (.int (8256 : Int32))] (.int (0 : Int32)) := own_arv H.2.2 (ev1 H) (n2 H) (n3 H) (by decide) rfl (fun cl hc => ⟨own_el (own_eqint (n34 H)) (ev1 H) hc rfl, own_el (own_eqint (n35 H)) (ev1 H) hc rfl, own_el (own_eqint (n36 H)) (ev1 H) hc rfl, own_el (own_eqint (n37 H)) (ev1 H) hc rfl, own_el (own_eqint (n38 H)) (ev1 H) hc rfl, own_el (own_eqint (n39 H)) (ev1 H) hc rfl, own_el (own_eqint (n40 H)) (ev1 H) hc rfl, own_el (own_eqint (n41 H)) (ev1 H) hc rfl, own_el (own_eqint (n42 H)) (ev1 H) hc rfl, own_el (own_eqint (n43 H)) (ev1 H) hc rfl, trivial⟩)
end Facts
theorem d1_0 : decode prog_49_method_3_code 0 = .ok (.getstatic 7, 3) := by decide +kernel
theorem d1_3 : decode prog_49_method_3_code 3 = .ok (.iload_n 0, 1) := by decide +kernel
theorem d1_4 : decode prog_49_method_3_code 4 = .ok (.invokestatic 13, 3) := by decide +kernel
theorem d1_7 : decode prog_49_method_3_code 7 = .ok (.ifCond .ne 13, 3) := by decide +kernel
theorem d1_10 : decode prog_49_method_3_code 10 = .ok (.getstatic 17, 3) := by decide +kernel
theorem d1_13 : decode prog_49_method_3_code 13 = .ok (.iload_n 0, 1) := by decide +kernel
theorem d1_14 : decode prog_49_method_3_code 14 = .ok (.invokestatic 13, 3) := by decide +kernel
theorem d1_17 : decode prog_49_method_3_code 17 = .ok (.ifCond .eq 7, 3) := by decide +kernel
theorem d1_20 : decode prog_49_method_3_code 20 = .ok (.iconst 1, 1) := by decide +kernel
theorem d1_21 : decode prog_49_method_3_code 21 = .ok (.goto 4, 3) := by decide +kernel
theorem d1_24 : decode prog_49_method_3_code 24 = .ok (.iconst 0, 1) := by decide +kernel
theorem d1_25 : decode prog_49_method_3_code 25 = .ok (.ireturn, 1) := by decide +kernel
theorem d2_0 : decode prog_49_method_9_code 0 = .ok (.iconst 0, 1) := by decide +kernel
theorem d2_1 : decode prog_49_method_9_code 1 = .ok (.istore_n 2, 1) := by decide +kernel
theorem d2_2 : decode prog_49_method_9_code 2 = .ok (.iload_n 2, 1) := by decide +kernel
theorem d2_3 : decode prog_49_method_9_code 3 = .ok (.aload_n 0, 1) := by decide +kernel
theorem d2_4 : decode prog_49_method_9_code 4 = .ok (.arraylength, 1) := by decide +kernel
theorem d2_5 : decode prog_49_method_9_code 5 = .ok (.if_icmp .ge 27, 3) := by decide +kernel
theorem d2_8 : decode prog_49_method_9_code 8 = .ok (.iload_n 1, 1) := by decide +kernel
theorem d2_9 : decode prog_49_method_9_code 9 = .ok (.aload_n 0, 1) := by decide +kernel
theorem d2_10 : decode prog_49_method_9_code 10 = .ok (.iload_n 2, 1) := by decide +kernel
theorem d2_11 : decode prog_49_method_9_code 11 = .ok (.iaload, 1) := by decide +kernel
theorem d2_12 : decode prog_49_method_9_code 12 = .ok (.if_icmp .lt 14, 3) := by decide +kernel
theorem d2_15 : decode prog_49_method_9_code 15 = .ok (.iload_n 1, 1) := by decide +kernel
theorem d2_16 : decode prog_49_method_9_code 16 = .ok (.aload_n 0, 1) := by decide +kernel
theorem d2_17 : decode prog_49_method_9_code 17 = .ok (.iload_n 2, 1) := by decide +kernel
theorem d2_18 : decode prog_49_method_9_code 18 = .ok (.iconst 1, 1) := by decide +kernel
theorem d2_19 : decode prog_49_method_9_code 19 = .ok (.iadd, 1) := by decide +kernel
theorem d2_20 : decode prog_49_method_9_code 20 = .ok (.iaload, 1) := by decide +kernel
theorem d2_21 : decode prog_49_method_9_code 21 = .ok (.if_icmp .gt 5, 3) := by decide +kernel
theorem d2_24 : decode prog_49_method_9_code 24 = .ok (.iconst 1, 1) := by decide +kernel
theorem d2_25 : decode prog_49_method_9_code 25 = .ok (.ireturn, 1) := by decide +kernel
theorem d2_26 : decode prog_49_method_9_code 26 = .ok (.iinc 2 2, 3) := by decide +kernel
theorem d2_29 : decode prog_49_method_9_code 29 = .ok (.goto (-27), 3) := by decide +kernel
theorem d2_32 : decode prog_49_method_9_code 32 = .ok (.iconst 0, 1) := by decide +kernel
theorem d2_33 : decode prog_49_method_9_code 33 = .ok (.ireturn, 1) := by decide +kernel
theorem d3_0 : decode method_2_code 0 = .ok (.iload_n 0, 1) := by decide +kernel
theorem d3_1 : decode method_2_code 1 = .ok (.ifCond .ge 5, 3) := by decide +kernel
theorem d3_4 : decode method_2_code 4 = .ok (.iconst 0, 1) := by decide +kernel
theorem d3_5 : decode method_2_code 5 = .ok (.ireturn, 1) := by decide +kernel
theorem d3_6 : decode method_2_code 6 = .ok (.iload_n 0, 1) := by decide +kernel
theorem d3_7 : decode method_2_code 7 = .ok (.sipush 128, 3) := by decide +kernel
theorem d3_10 : decode method_2_code 10 = .ok (.if_icmp .ge 63, 3) := by decide +kernel
theorem d3_13 : decode method_2_code 13 = .ok (.iload_n 0, 1) := by decide +kernel
theorem d3_14 : decode method_2_code 14 = .ok (.bipush 65, 2) := by decide +kernel
theorem d3_16 : decode method_2_code 16 = .ok (.if_icmp .lt 9, 3) := by decide +kernel
theorem d3_19 : decode method_2_code 19 = .ok (.iload_n 0, 1) := by decide +kernel
theorem d3_20 : decode method_2_code 20 = .ok (.bipush 90, 2) := by decide +kernel
theorem d3_22 : decode method_2_code 22 = .ok (.if_icmp .le 45, 3) := by decide +kernel
theorem d3_25 : decode method_2_code 25 = .ok (.iload_n 0, 1) := by decide +kernel
theorem d3_26 : decode method_2_code 26 = .ok (.bipush 97, 2) := by decide +kernel
theorem d3_28 : decode method_2_code 28 = .ok (.if_icmp .lt 9, 3) := by decide +kernel
theorem d3_31 : decode method_2_code 31 = .ok (.iload_n 0, 1) := by decide +kernel
theorem d3_32 : decode method_2_code 32 = .ok (.bipush 122, 2) := by decide +kernel
theorem d3_34 : decode method_2_code 34 = .ok (.if_icmp .le 33, 3) := by decide +kernel
theorem d3_37 : decode method_2_code 37 = .ok (.iload_n 0, 1) := by decide +kernel
theorem d3_38 : decode method_2_code 38 = .ok (.bipush 48, 2) := by decide +kernel
theorem d3_40 : decode method_2_code 40 = .ok (.if_icmp .lt 9, 3) := by decide +kernel
theorem d3_43 : decode method_2_code 43 = .ok (.iload_n 0, 1) := by decide +kernel
theorem d3_44 : decode method_2_code 44 = .ok (.bipush 57, 2) := by decide +kernel
theorem d3_46 : decode method_2_code 46 = .ok (.if_icmp .le 21, 3) := by decide +kernel
theorem d3_49 : decode method_2_code 49 = .ok (.iload_n 0, 1) := by decide +kernel
theorem d3_50 : decode method_2_code 50 = .ok (.bipush 95, 2) := by decide +kernel
theorem d3_52 : decode method_2_code 52 = .ok (.if_icmp .eq 15, 3) := by decide +kernel
theorem d3_55 : decode method_2_code 55 = .ok (.iload_n 0, 1) := by decide +kernel
theorem d3_56 : decode method_2_code 56 = .ok (.bipush 45, 2) := by decide +kernel
theorem d3_58 : decode method_2_code 58 = .ok (.if_icmp .eq 9, 3) := by decide +kernel
theorem d3_61 : decode method_2_code 61 = .ok (.iload_n 0, 1) := by decide +kernel
theorem d3_62 : decode method_2_code 62 = .ok (.bipush 46, 2) := by decide +kernel
theorem d3_64 : decode method_2_code 64 = .ok (.if_icmp .ne 7, 3) := by decide +kernel
theorem d3_67 : decode method_2_code 67 = .ok (.iconst 1, 1) := by decide +kernel
theorem d3_68 : decode method_2_code 68 = .ok (.goto 4, 3) := by decide +kernel
theorem d3_71 : decode method_2_code 71 = .ok (.iconst 0, 1) := by decide +kernel
theorem d3_72 : decode method_2_code 72 = .ok (.ireturn, 1) := by decide +kernel
theorem d3_73 : decode method_2_code 73 = .ok (.iload_n 0, 1) := by decide +kernel
theorem d3_74 : decode method_2_code 74 = .ok (.sipush 8192, 3) := by decide +kernel
theorem d3_77 : decode method_2_code 77 = .ok (.if_icmp .ge 44, 3) := by decide +kernel
theorem d3_80 : decode method_2_code 80 = .ok (.iload_n 0, 1) := by decide +kernel
theorem d3_81 : decode method_2_code 81 = .ok (.sipush 183, 3) := by decide +kernel
theorem d3_84 : decode method_2_code 84 = .ok (.if_icmp .eq 31, 3) := by decide +kernel
theorem d3_87 : decode method_2_code 87 = .ok (.iload_n 0, 1) := by decide +kernel
theorem d3_88 : decode method_2_code 88 = .ok (.sipush 192, 3) := by decide +kernel
theorem d3_91 : decode method_2_code 91 = .ok (.if_icmp .lt 28, 3) := by decide +kernel
theorem d3_94 : decode method_2_code 94 = .ok (.iload_n 0, 1) := by decide +kernel
theorem d3_95 : decode method_2_code 95 = .ok (.sipush 215, 3) := by decide +kernel
theorem d3_98 : decode method_2_code 98 = .ok (.if_icmp .eq 21, 3) := by decide +kernel
theorem d3_101 : decode method_2_code 101 = .ok (.iload_n 0, 1) := by decide +kernel
theorem d3_102 : decode method_2_code 102 = .ok (.sipush 247, 3) := by decide +kernel
theorem d3_105 : decode method_2_code 105 = .ok (.if_icmp .eq 14, 3) := by decide +kernel
theorem d3_108 : decode method_2_code 108 = .ok (.iload_n 0, 1) := by decide +kernel
theorem d3_109 : decode method_2_code 109 = .ok (.sipush 894, 3) := by decide +kernel
theorem d3_112 : decode method_2_code 112 = .ok (.if_icmp .eq 7, 3) := by decide +kernel
theorem d3_115 : decode method_2_code 115 = .ok (.iconst 1, 1) := by decide +kernel
theorem d3_116 : decode method_2_code 116 = .ok (.goto 4, 3) := by decide +kernel
theorem d3_119 : decode method_2_code 119 = .ok (.iconst 0, 1) := by decide +kernel
theorem d3_120 : decode method_2_code 120 = .ok (.ireturn, 1) := by decide +kernel
theorem d3_121 : decode method_2_code 121 = .ok (.iload_n 0, 1) := by decide +kernel
theorem d3_122 : decode method_2_code 122 = .ok (.sipush 12288, 3) := by decide +kernel
theorem d3_125 : decode method_2_code 125 = .ok (.if_icmp .ge 65, 3) := by decide +kernel
theorem d3_128 : decode method_2_code 128 = .ok (.iload_n 0, 1) := by decide +kernel
theorem d3_129 : decode method_2_code 129 = .ok (.sipush 8204, 3) := by decide +kernel
theorem d3_132 : decode method_2_code 132 = .ok (.if_icmp .eq 52, 3) := by decide +kernel
theorem d3_135 : decode method_2_code 135 = .ok (.iload_n 0, 1) := by decide +kernel
theorem d3_136 : decode method_2_code 136 = .ok (.sipush 8205, 3) := by decide +kernel
theorem d3_139 : decode method_2_code 139 = .ok (.if_icmp .eq 45, 3) := by decide +kernel
theorem d3_142 : decode method_2_code 142 = .ok (.iload_n 0, 1) := by decide +kernel
theorem d3_143 : decode method_2_code 143 = .ok (.sipush 8255, 3) := by decide +kernel
theorem d3_146 : decode method_2_code 146 = .ok (.if_icmp .eq 38, 3) := by decide +kernel
theorem d3_149 : decode method_2_code 149 = .ok (.iload_n 0, 1) := by decide +kernel
theorem d3_150 : decode method_2_code 150 = .ok (.sipush 8256, 3) := by decide +kernel
theorem d3_153 : decode method_2_code 153 = .ok (.if_icmp .eq 31, 3) := by decide +kernel
theorem d3_156 : decode method_2_code 156 = .ok (.iload_n 0, 1) := by decide +kernel
theorem d3_157 : decode method_2_code 157 = .ok (.sipush 8304, 3) := by decide +kernel
theorem d3_160 : decode method_2_code 160 = .ok (.if_icmp .lt 10, 3) := by decide +kernel
theorem d3_163 : decode method_2_code 163 = .ok (.iload_n 0, 1) := by decide +kernel
theorem d3_164 : decode method_2_code 164 = .ok (.sipush 8591, 3) := by decide +kernel
theorem d3_167 : decode method_2_code 167 = .ok (.if_icmp .le 17, 3) := by decide +kernel
theorem d3_170 : decode method_2_code 170 = .ok (.iload_n 0, 1) := by decide +kernel
theorem d3_171 : decode method_2_code 171 = .ok (.sipush 11264, 3) := by decide +kernel
theorem d3_174 : decode method_2_code 174 = .ok (.if_icmp .lt 14, 3) := by decide +kernel
theorem d3_177 : decode method_2_code 177 = .ok (.iload_n 0, 1) := by decide +kernel
theorem d3_178 : decode method_2_code 178 = .ok (.sipush 12271, 3) := by decide +kernel
theorem d3_181 : decode method_2_code 181 = .ok (.if_icmp .gt 7, 3) := by decide +kernel
theorem d3_184 : decode method_2_code 184 = .ok (.iconst 1, 1) := by decide +kernel
theorem d3_185 : decode method_2_code 185 = .ok (.goto 4, 3) := by decide +kernel
theorem d3_188 : decode method_2_code 188 = .ok (.iconst 0, 1) := by decide +kernel
theorem d3_189 : decode method_2_code 189 = .ok (.ireturn, 1) := by decide +kernel
theorem d3_190 : decode method_2_code 190 = .ok (.iload_n 0, 1) := by decide +kernel
theorem d3_191 : decode method_2_code 191 = .ok (.ldc 7, 2) := by decide +kernel
theorem d3_193 : decode method_2_code 193 = .ok (.if_icmp .ge 46, 3) := by decide +kernel
theorem d3_196 : decode method_2_code 196 = .ok (.iload_n 0, 1) := by decide +kernel
theorem d3_197 : decode method_2_code 197 = .ok (.sipush 12289, 3) := by decide +kernel
theorem d3_200 : decode method_2_code 200 = .ok (.if_icmp .lt 9, 3) := by decide +kernel
theorem d3_203 : decode method_2_code 203 = .ok (.iload_n 0, 1) := by decide +kernel
theorem d3_204 : decode method_2_code 204 = .ok (.ldc 8, 2) := by decide +kernel
theorem d3_206 : decode method_2_code 206 = .ok (.if_icmp .le 27, 3) := by decide +kernel
theorem d3_209 : decode method_2_code 209 = .ok (.iload_n 0, 1) := by decide +kernel
theorem d3_210 : decode method_2_code 210 = .ok (.ldc 9, 2) := by decide +kernel
theorem d3_212 : decode method_2_code 212 = .ok (.if_icmp .lt 9, 3) := by decide +kernel
theorem d3_215 : decode method_2_code 215 = .ok (.iload_n 0, 1) := by decide +kernel
theorem d3_216 : decode method_2_code 216 = .ok (.ldc 10, 2) := by decide +kernel
theorem d3_218 : decode method_2_code 218 = .ok (.if_icmp .le 15, 3) := by decide +kernel
theorem d3_221 : decode method_2_code 221 = .ok (.iload_n 0, 1) := by decide +kernel
theorem d3_222 : decode method_2_code 222 = .ok (.ldc 11, 2) := by decide +kernel
theorem d3_224 : decode method_2_code 224 = .ok (.if_icmp .lt 13, 3) := by decide +kernel
theorem d3_227 : decode method_2_code 227 = .ok (.iload_n 0, 1) := by decide +kernel
theorem d3_228 : decode method_2_code 228 = .ok (.ldc 12, 2) := by decide +kernel
theorem d3_230 : decode method_2_code 230 = .ok (.if_icmp .gt 7, 3) := by decide +kernel
theorem d3_233 : decode method_2_code 233 = .ok (.iconst 1, 1) := by decide +kernel
theorem d3_234 : decode method_2_code 234 = .ok (.goto 4, 3) := by decide +kernel
theorem d3_237 : decode method_2_code 237 = .ok (.iconst 0, 1) := by decide +kernel
theorem d3_238 : decode method_2_code 238 = .ok (.ireturn, 1) := by decide +kernel
theorem d3_239 : decode method_2_code 239 = .ok (.iload_n 0, 1) := by decide +kernel
theorem d3_240 : decode method_2_code 240 = .ok (.ldc 13, 2) := by decide +kernel
theorem d3_242 : decode method_2_code 242 = .ok (.if_icmp .gt 7, 3) := by decide +kernel
theorem d3_245 : decode method_2_code 245 = .ok (.iconst 1, 1) := by decide +kernel
theorem d3_246 : decode method_2_code 246 = .ok (.goto 4, 3) := by decide +kernel
theorem d3_249 : decode method_2_code 249 = .ok (.iconst 0, 1) := by decide +kernel
theorem d3_250 : decode method_2_code 250 = .ok (.ireturn, 1) := by decide +kernel
theorem pd_0 : parseMethodDescriptor "([II)Z" = some ⟨[(.array .int), .int], some .boolean⟩ := by decide +kernel
theorem pd_1 : parseMethodDescriptor "(I)Z" = some ⟨[.int], some .boolean⟩ := by decide +kernel
theorem pn_com_example_annotable_annotable_XmlNames : plainName "com/example/annotable/annotable/XmlNames" = true := by first | (simp [plainName, overriddenIn]; done) | decide +kernel
theorem pn_com_example_annotable_annotable_XmlNamesIsNameCharPinLaw : plainName "com/example/annotable/annotable/XmlNamesIsNameCharPinLaw" = true := by first | (simp [plainName, overriddenIn]; done) | decide +kernel
theorem ef_0 (m : MethodId) (x0 : Addr) (x1 : Int32) : entryFrame m #[(.ref x0), (.int x1)] 3 = mkF m 0 #[.val (.ref x0), .val (.int x1), .unset] [] := by first | (simp [entryFrame, mkF, argsToLocals, Value.category]; done) | rfl
theorem ef_1 (m : MethodId) (x0 : Int32) : entryFrame m #[(.int x0)] 1 = mkF m 0 #[.val (.int x0)] [] := by first | (simp [entryFrame, mkF, argsToLocals, Value.category]; done) | rfl
theorem ef_2 (m : MethodId) (x0 : Int32) (x1 : Int32) (x2 : Int32) (x3 : Int32) : entryFrame m #[(.int x0), (.int x1), (.int x2), (.int x3)] maxLocals = mkF m 0 #[.val (.int x0), .val (.int x1), .val (.int x2), .val (.int x3), .unset, .unset, .unset, .unset, .unset, .unset] [] := by first | (simp [entryFrame, mkF, argsToLocals, Value.category, maxLocals]; done) | rfl
set_option maxRecDepth 65536 in
set_option maxHeartbeats 40000000 in
theorem rm2_0 (l : Launch) {Z : State} {a0 : Array Value} (H : Hyp Z a0) (p1 : Int32) (h0 : Heap) (Ol : Old Z Z.heap.size h0) :
    Mt l Z (⟨"com/example/annotable/annotable/XmlNames", "in", "([II)Z"⟩ : MethodName) prog_49_method_9_code 3 (some .boolean) [] ({ frames := 0, cells := 0, slots := 0, locals := 0 } : Room) #[(.ref (ad0 Z a0)), (.int p1)] h0 (fun v h L => (v = some (.int (inS p1)) ∧ Fr Z.heap.size L ∧ h = h0)) := by
  refine g_body (plainFor_of_name pn_com_example_annotable_annotable_XmlNames) ?_
  intro p e s m below meth c T0 K X0 e0
  refine g_entry (ef_0 m (ad0 Z a0) p1) ?_
  have N0 : Fr Z.heap.size [] := Fr.nil _
  have Ol0 := Ol
  have Kp0 : Keep h0 h0 [] := Keep.refl h0 _
  refine g_iconst X0 K (q := 1) (v := (0 : Int32)) d2_0 (by decide) rfl ?_
  refine g_istoreN X0 K (q := 2) (L' := #[.val (.ref (ad0 Z a0)), .val (.int p1), .val (.int (0 : Int32))]) d2_1 rfl rfl ?_
  refine g_iloadN X0 K (q := 3) d2_2 rfl rfl ?_
  refine g_aloadN X0 K (q := 4) d2_3 rfl rfl rfl ?_
  refine g_len X0 K (q := 5) e0 ((v0 H).ext Ol0.2) d2_4 rfl ?_
  refine g_icN X0 K (q := 8) d2_5 (by decide) rfl ?_
  refine g_iloadN X0 K (q := 9) d2_8 rfl rfl ?_
  refine g_aloadN X0 K (q := 10) d2_9 rfl rfl rfl ?_
  refine g_iloadN X0 K (q := 11) d2_10 rfl rfl ?_
  refine g_iald X0 K (q := 12) (v := (.int (65 : Int32))) e0 ((v0 H).ext Ol0.2) (by decide) rfl d2_11 rfl ?_
  by_cases hR1 : 65 ≤ p1.toInt ∧ p1.toInt ≤ 90
  · refine g_icN X0 K (q := 15) d2_12 (flt (own_nltI (m := 65) rfl (by omega))).1 rfl ?_
    refine g_iloadN X0 K (q := 16) d2_15 rfl rfl ?_
    refine g_aloadN X0 K (q := 17) d2_16 rfl rfl rfl ?_
    refine g_iloadN X0 K (q := 18) d2_17 rfl rfl ?_
    refine g_iconst X0 K (q := 19) (v := (1 : Int32)) d2_18 (by decide) rfl ?_
    refine g_iadd X0 K (q := 20) d2_19 (z := (1 : Int32)) (by decide) rfl ?_
    refine g_iald X0 K (q := 21) (v := (.int (90 : Int32))) e0 ((v0 H).ext Ol0.2) (by decide) rfl d2_20 rfl ?_
    refine g_icN X0 K (q := 24) d2_21 (flt (own_ngtI (m := 90) rfl (by omega))).2.2.1 rfl ?_
    refine g_iconst X0 K (q := 25) (v := (1 : Int32)) d2_24 (by decide) rfl ?_
    refine g_nret X0 K (by simp) (z' := (1 : Int32)) (by decide) d2_25 (by decide) (by decide) ?_
    exact ⟨own_some (by unfold inS; exact own_if1 (by omega)), N0, e0⟩
  · refine g_join (T := T0) (g := (mkF m 26 #[.val (.ref (ad0 Z a0)), .val (.int p1), .val (.int (0 : Int32))] [])) ?_ fun j1 => ?_
    · refine g_iinc X0 K (q := 29) (z := (2 : Int32)) (L' := #[.val (.ref (ad0 Z a0)), .val (.int p1), .val (.int (2 : Int32))]) d2_26 rfl (by decide) rfl rfl ?_
      refine g_goto X0 K (q := 2) d2_29 (by decide) (by decide) ?_
      refine g_iloadN X0 K (q := 3) d2_2 rfl rfl ?_
      refine g_aloadN X0 K (q := 4) d2_3 rfl rfl rfl ?_
      refine g_len X0 K (q := 5) e0 ((v0 H).ext Ol0.2) d2_4 rfl ?_
      refine g_icN X0 K (q := 8) d2_5 (by decide) rfl ?_
      refine g_iloadN X0 K (q := 9) d2_8 rfl rfl ?_
      refine g_aloadN X0 K (q := 10) d2_9 rfl rfl rfl ?_
      refine g_iloadN X0 K (q := 11) d2_10 rfl rfl ?_
      refine g_iald X0 K (q := 12) (v := (.int (95 : Int32))) e0 ((v0 H).ext Ol0.2) (by decide) rfl d2_11 rfl ?_
      by_cases hR2 : 95 ≤ p1.toInt ∧ p1.toInt ≤ 95
      · refine g_icN X0 K (q := 15) d2_12 (flt (own_nltI (m := 95) rfl (by omega))).1 rfl ?_
        refine g_iloadN X0 K (q := 16) d2_15 rfl rfl ?_
        refine g_aloadN X0 K (q := 17) d2_16 rfl rfl rfl ?_
        refine g_iloadN X0 K (q := 18) d2_17 rfl rfl ?_
        refine g_iconst X0 K (q := 19) (v := (1 : Int32)) d2_18 (by decide) rfl ?_
        refine g_iadd X0 K (q := 20) d2_19 (z := (3 : Int32)) (by decide) rfl ?_
        refine g_iald X0 K (q := 21) (v := (.int (95 : Int32))) e0 ((v0 H).ext Ol0.2) (by decide) rfl d2_20 rfl ?_
        refine g_icN X0 K (q := 24) d2_21 (flt (own_ngtI (m := 95) rfl (by omega))).2.2.1 rfl ?_
        refine g_iconst X0 K (q := 25) (v := (1 : Int32)) d2_24 (by decide) rfl ?_
        refine g_nret X0 K (by simp) (z' := (1 : Int32)) (by decide) d2_25 (by decide) (by decide) ?_
        exact ⟨own_some (by unfold inS; exact own_if1 (by omega)), N0, e0⟩
      · refine g_join (T := T0) (g := (mkF m 26 #[.val (.ref (ad0 Z a0)), .val (.int p1), .val (.int (2 : Int32))] [])) ?_ fun j2 => ?_
        · refine g_iinc X0 K (q := 29) (z := (4 : Int32)) (L' := #[.val (.ref (ad0 Z a0)), .val (.int p1), .val (.int (4 : Int32))]) d2_26 rfl (by decide) rfl rfl ?_
          refine g_goto X0 K (q := 2) d2_29 (by decide) (by decide) ?_
          refine g_iloadN X0 K (q := 3) d2_2 rfl rfl ?_
          refine g_aloadN X0 K (q := 4) d2_3 rfl rfl rfl ?_
          refine g_len X0 K (q := 5) e0 ((v0 H).ext Ol0.2) d2_4 rfl ?_
          refine g_icN X0 K (q := 8) d2_5 (by decide) rfl ?_
          refine g_iloadN X0 K (q := 9) d2_8 rfl rfl ?_
          refine g_aloadN X0 K (q := 10) d2_9 rfl rfl rfl ?_
          refine g_iloadN X0 K (q := 11) d2_10 rfl rfl ?_
          refine g_iald X0 K (q := 12) (v := (.int (97 : Int32))) e0 ((v0 H).ext Ol0.2) (by decide) rfl d2_11 rfl ?_
          by_cases hR3 : 97 ≤ p1.toInt ∧ p1.toInt ≤ 122
          · refine g_icN X0 K (q := 15) d2_12 (flt (own_nltI (m := 97) rfl (by omega))).1 rfl ?_
            refine g_iloadN X0 K (q := 16) d2_15 rfl rfl ?_
            refine g_aloadN X0 K (q := 17) d2_16 rfl rfl rfl ?_
            refine g_iloadN X0 K (q := 18) d2_17 rfl rfl ?_
            refine g_iconst X0 K (q := 19) (v := (1 : Int32)) d2_18 (by decide) rfl ?_
            refine g_iadd X0 K (q := 20) d2_19 (z := (5 : Int32)) (by decide) rfl ?_
            refine g_iald X0 K (q := 21) (v := (.int (122 : Int32))) e0 ((v0 H).ext Ol0.2) (by decide) rfl d2_20 rfl ?_
            refine g_icN X0 K (q := 24) d2_21 (flt (own_ngtI (m := 122) rfl (by omega))).2.2.1 rfl ?_
            refine g_iconst X0 K (q := 25) (v := (1 : Int32)) d2_24 (by decide) rfl ?_
            refine g_nret X0 K (by simp) (z' := (1 : Int32)) (by decide) d2_25 (by decide) (by decide) ?_
            exact ⟨own_some (by unfold inS; exact own_if1 (by omega)), N0, e0⟩
          · refine g_join (T := T0) (g := (mkF m 26 #[.val (.ref (ad0 Z a0)), .val (.int p1), .val (.int (4 : Int32))] [])) ?_ fun j3 => ?_
            · refine g_iinc X0 K (q := 29) (z := (6 : Int32)) (L' := #[.val (.ref (ad0 Z a0)), .val (.int p1), .val (.int (6 : Int32))]) d2_26 rfl (by decide) rfl rfl ?_
              refine g_goto X0 K (q := 2) d2_29 (by decide) (by decide) ?_
              refine g_iloadN X0 K (q := 3) d2_2 rfl rfl ?_
              refine g_aloadN X0 K (q := 4) d2_3 rfl rfl rfl ?_
              refine g_len X0 K (q := 5) e0 ((v0 H).ext Ol0.2) d2_4 rfl ?_
              refine g_icN X0 K (q := 8) d2_5 (by decide) rfl ?_
              refine g_iloadN X0 K (q := 9) d2_8 rfl rfl ?_
              refine g_aloadN X0 K (q := 10) d2_9 rfl rfl rfl ?_
              refine g_iloadN X0 K (q := 11) d2_10 rfl rfl ?_
              refine g_iald X0 K (q := 12) (v := (.int (192 : Int32))) e0 ((v0 H).ext Ol0.2) (by decide) rfl d2_11 rfl ?_
              by_cases hR4 : 192 ≤ p1.toInt ∧ p1.toInt ≤ 214
              · refine g_icN X0 K (q := 15) d2_12 (flt (own_nltI (m := 192) rfl (by omega))).1 rfl ?_
                refine g_iloadN X0 K (q := 16) d2_15 rfl rfl ?_
                refine g_aloadN X0 K (q := 17) d2_16 rfl rfl rfl ?_
                refine g_iloadN X0 K (q := 18) d2_17 rfl rfl ?_
                refine g_iconst X0 K (q := 19) (v := (1 : Int32)) d2_18 (by decide) rfl ?_
                refine g_iadd X0 K (q := 20) d2_19 (z := (7 : Int32)) (by decide) rfl ?_
                refine g_iald X0 K (q := 21) (v := (.int (214 : Int32))) e0 ((v0 H).ext Ol0.2) (by decide) rfl d2_20 rfl ?_
                refine g_icN X0 K (q := 24) d2_21 (flt (own_ngtI (m := 214) rfl (by omega))).2.2.1 rfl ?_
                refine g_iconst X0 K (q := 25) (v := (1 : Int32)) d2_24 (by decide) rfl ?_
                refine g_nret X0 K (by simp) (z' := (1 : Int32)) (by decide) d2_25 (by decide) (by decide) ?_
                exact ⟨own_some (by unfold inS; exact own_if1 (by omega)), N0, e0⟩
              · refine g_join (T := T0) (g := (mkF m 26 #[.val (.ref (ad0 Z a0)), .val (.int p1), .val (.int (6 : Int32))] [])) ?_ fun j4 => ?_
                · refine g_iinc X0 K (q := 29) (z := (8 : Int32)) (L' := #[.val (.ref (ad0 Z a0)), .val (.int p1), .val (.int (8 : Int32))]) d2_26 rfl (by decide) rfl rfl ?_
                  refine g_goto X0 K (q := 2) d2_29 (by decide) (by decide) ?_
                  refine g_iloadN X0 K (q := 3) d2_2 rfl rfl ?_
                  refine g_aloadN X0 K (q := 4) d2_3 rfl rfl rfl ?_
                  refine g_len X0 K (q := 5) e0 ((v0 H).ext Ol0.2) d2_4 rfl ?_
                  refine g_icN X0 K (q := 8) d2_5 (by decide) rfl ?_
                  refine g_iloadN X0 K (q := 9) d2_8 rfl rfl ?_
                  refine g_aloadN X0 K (q := 10) d2_9 rfl rfl rfl ?_
                  refine g_iloadN X0 K (q := 11) d2_10 rfl rfl ?_
                  refine g_iald X0 K (q := 12) (v := (.int (216 : Int32))) e0 ((v0 H).ext Ol0.2) (by decide) rfl d2_11 rfl ?_
                  by_cases hR5 : 216 ≤ p1.toInt ∧ p1.toInt ≤ 246
                  · refine g_icN X0 K (q := 15) d2_12 (flt (own_nltI (m := 216) rfl (by omega))).1 rfl ?_
                    refine g_iloadN X0 K (q := 16) d2_15 rfl rfl ?_
                    refine g_aloadN X0 K (q := 17) d2_16 rfl rfl rfl ?_
                    refine g_iloadN X0 K (q := 18) d2_17 rfl rfl ?_
                    refine g_iconst X0 K (q := 19) (v := (1 : Int32)) d2_18 (by decide) rfl ?_
                    refine g_iadd X0 K (q := 20) d2_19 (z := (9 : Int32)) (by decide) rfl ?_
                    refine g_iald X0 K (q := 21) (v := (.int (246 : Int32))) e0 ((v0 H).ext Ol0.2) (by decide) rfl d2_20 rfl ?_
                    refine g_icN X0 K (q := 24) d2_21 (flt (own_ngtI (m := 246) rfl (by omega))).2.2.1 rfl ?_
                    refine g_iconst X0 K (q := 25) (v := (1 : Int32)) d2_24 (by decide) rfl ?_
                    refine g_nret X0 K (by simp) (z' := (1 : Int32)) (by decide) d2_25 (by decide) (by decide) ?_
                    exact ⟨own_some (by unfold inS; exact own_if1 (by omega)), N0, e0⟩
                  · refine g_join (T := T0) (g := (mkF m 26 #[.val (.ref (ad0 Z a0)), .val (.int p1), .val (.int (8 : Int32))] [])) ?_ fun j5 => ?_
                    · refine g_iinc X0 K (q := 29) (z := (10 : Int32)) (L' := #[.val (.ref (ad0 Z a0)), .val (.int p1), .val (.int (10 : Int32))]) d2_26 rfl (by decide) rfl rfl ?_
                      refine g_goto X0 K (q := 2) d2_29 (by decide) (by decide) ?_
                      refine g_iloadN X0 K (q := 3) d2_2 rfl rfl ?_
                      refine g_aloadN X0 K (q := 4) d2_3 rfl rfl rfl ?_
                      refine g_len X0 K (q := 5) e0 ((v0 H).ext Ol0.2) d2_4 rfl ?_
                      refine g_icN X0 K (q := 8) d2_5 (by decide) rfl ?_
                      refine g_iloadN X0 K (q := 9) d2_8 rfl rfl ?_
                      refine g_aloadN X0 K (q := 10) d2_9 rfl rfl rfl ?_
                      refine g_iloadN X0 K (q := 11) d2_10 rfl rfl ?_
                      refine g_iald X0 K (q := 12) (v := (.int (248 : Int32))) e0 ((v0 H).ext Ol0.2) (by decide) rfl d2_11 rfl ?_
                      by_cases hR6 : 248 ≤ p1.toInt ∧ p1.toInt ≤ 767
                      · refine g_icN X0 K (q := 15) d2_12 (flt (own_nltI (m := 248) rfl (by omega))).1 rfl ?_
                        refine g_iloadN X0 K (q := 16) d2_15 rfl rfl ?_
                        refine g_aloadN X0 K (q := 17) d2_16 rfl rfl rfl ?_
                        refine g_iloadN X0 K (q := 18) d2_17 rfl rfl ?_
                        refine g_iconst X0 K (q := 19) (v := (1 : Int32)) d2_18 (by decide) rfl ?_
                        refine g_iadd X0 K (q := 20) d2_19 (z := (11 : Int32)) (by decide) rfl ?_
                        refine g_iald X0 K (q := 21) (v := (.int (767 : Int32))) e0 ((v0 H).ext Ol0.2) (by decide) rfl d2_20 rfl ?_
                        refine g_icN X0 K (q := 24) d2_21 (flt (own_ngtI (m := 767) rfl (by omega))).2.2.1 rfl ?_
                        refine g_iconst X0 K (q := 25) (v := (1 : Int32)) d2_24 (by decide) rfl ?_
                        refine g_nret X0 K (by simp) (z' := (1 : Int32)) (by decide) d2_25 (by decide) (by decide) ?_
                        exact ⟨own_some (by unfold inS; exact own_if1 (by omega)), N0, e0⟩
                      · refine g_join (T := T0) (g := (mkF m 26 #[.val (.ref (ad0 Z a0)), .val (.int p1), .val (.int (10 : Int32))] [])) ?_ fun j6 => ?_
                        · refine g_iinc X0 K (q := 29) (z := (12 : Int32)) (L' := #[.val (.ref (ad0 Z a0)), .val (.int p1), .val (.int (12 : Int32))]) d2_26 rfl (by decide) rfl rfl ?_
                          refine g_goto X0 K (q := 2) d2_29 (by decide) (by decide) ?_
                          refine g_iloadN X0 K (q := 3) d2_2 rfl rfl ?_
                          refine g_aloadN X0 K (q := 4) d2_3 rfl rfl rfl ?_
                          refine g_len X0 K (q := 5) e0 ((v0 H).ext Ol0.2) d2_4 rfl ?_
                          refine g_icN X0 K (q := 8) d2_5 (by decide) rfl ?_
                          refine g_iloadN X0 K (q := 9) d2_8 rfl rfl ?_
                          refine g_aloadN X0 K (q := 10) d2_9 rfl rfl rfl ?_
                          refine g_iloadN X0 K (q := 11) d2_10 rfl rfl ?_
                          refine g_iald X0 K (q := 12) (v := (.int (880 : Int32))) e0 ((v0 H).ext Ol0.2) (by decide) rfl d2_11 rfl ?_
                          by_cases hR7 : 880 ≤ p1.toInt ∧ p1.toInt ≤ 893
                          · refine g_icN X0 K (q := 15) d2_12 (flt (own_nltI (m := 880) rfl (by omega))).1 rfl ?_
                            refine g_iloadN X0 K (q := 16) d2_15 rfl rfl ?_
                            refine g_aloadN X0 K (q := 17) d2_16 rfl rfl rfl ?_
                            refine g_iloadN X0 K (q := 18) d2_17 rfl rfl ?_
                            refine g_iconst X0 K (q := 19) (v := (1 : Int32)) d2_18 (by decide) rfl ?_
                            refine g_iadd X0 K (q := 20) d2_19 (z := (13 : Int32)) (by decide) rfl ?_
                            refine g_iald X0 K (q := 21) (v := (.int (893 : Int32))) e0 ((v0 H).ext Ol0.2) (by decide) rfl d2_20 rfl ?_
                            refine g_icN X0 K (q := 24) d2_21 (flt (own_ngtI (m := 893) rfl (by omega))).2.2.1 rfl ?_
                            refine g_iconst X0 K (q := 25) (v := (1 : Int32)) d2_24 (by decide) rfl ?_
                            refine g_nret X0 K (by simp) (z' := (1 : Int32)) (by decide) d2_25 (by decide) (by decide) ?_
                            exact ⟨own_some (by unfold inS; exact own_if1 (by omega)), N0, e0⟩
                          · refine g_join (T := T0) (g := (mkF m 26 #[.val (.ref (ad0 Z a0)), .val (.int p1), .val (.int (12 : Int32))] [])) ?_ fun j7 => ?_
                            · refine g_iinc X0 K (q := 29) (z := (14 : Int32)) (L' := #[.val (.ref (ad0 Z a0)), .val (.int p1), .val (.int (14 : Int32))]) d2_26 rfl (by decide) rfl rfl ?_
                              refine g_goto X0 K (q := 2) d2_29 (by decide) (by decide) ?_
                              refine g_iloadN X0 K (q := 3) d2_2 rfl rfl ?_
                              refine g_aloadN X0 K (q := 4) d2_3 rfl rfl rfl ?_
                              refine g_len X0 K (q := 5) e0 ((v0 H).ext Ol0.2) d2_4 rfl ?_
                              refine g_icN X0 K (q := 8) d2_5 (by decide) rfl ?_
                              refine g_iloadN X0 K (q := 9) d2_8 rfl rfl ?_
                              refine g_aloadN X0 K (q := 10) d2_9 rfl rfl rfl ?_
                              refine g_iloadN X0 K (q := 11) d2_10 rfl rfl ?_
                              refine g_iald X0 K (q := 12) (v := (.int (895 : Int32))) e0 ((v0 H).ext Ol0.2) (by decide) rfl d2_11 rfl ?_
                              by_cases hR8 : 895 ≤ p1.toInt ∧ p1.toInt ≤ 8191
                              · refine g_icN X0 K (q := 15) d2_12 (flt (own_nltI (m := 895) rfl (by omega))).1 rfl ?_
                                refine g_iloadN X0 K (q := 16) d2_15 rfl rfl ?_
                                refine g_aloadN X0 K (q := 17) d2_16 rfl rfl rfl ?_
                                refine g_iloadN X0 K (q := 18) d2_17 rfl rfl ?_
                                refine g_iconst X0 K (q := 19) (v := (1 : Int32)) d2_18 (by decide) rfl ?_
                                refine g_iadd X0 K (q := 20) d2_19 (z := (15 : Int32)) (by decide) rfl ?_
                                refine g_iald X0 K (q := 21) (v := (.int (8191 : Int32))) e0 ((v0 H).ext Ol0.2) (by decide) rfl d2_20 rfl ?_
                                refine g_icN X0 K (q := 24) d2_21 (flt (own_ngtI (m := 8191) rfl (by omega))).2.2.1 rfl ?_
                                refine g_iconst X0 K (q := 25) (v := (1 : Int32)) d2_24 (by decide) rfl ?_
                                refine g_nret X0 K (by simp) (z' := (1 : Int32)) (by decide) d2_25 (by decide) (by decide) ?_
                                exact ⟨own_some (by unfold inS; exact own_if1 (by omega)), N0, e0⟩
                              · refine g_join (T := T0) (g := (mkF m 26 #[.val (.ref (ad0 Z a0)), .val (.int p1), .val (.int (14 : Int32))] [])) ?_ fun j8 => ?_
                                · refine g_iinc X0 K (q := 29) (z := (16 : Int32)) (L' := #[.val (.ref (ad0 Z a0)), .val (.int p1), .val (.int (16 : Int32))]) d2_26 rfl (by decide) rfl rfl ?_
                                  refine g_goto X0 K (q := 2) d2_29 (by decide) (by decide) ?_
                                  refine g_iloadN X0 K (q := 3) d2_2 rfl rfl ?_
                                  refine g_aloadN X0 K (q := 4) d2_3 rfl rfl rfl ?_
                                  refine g_len X0 K (q := 5) e0 ((v0 H).ext Ol0.2) d2_4 rfl ?_
                                  refine g_icN X0 K (q := 8) d2_5 (by decide) rfl ?_
                                  refine g_iloadN X0 K (q := 9) d2_8 rfl rfl ?_
                                  refine g_aloadN X0 K (q := 10) d2_9 rfl rfl rfl ?_
                                  refine g_iloadN X0 K (q := 11) d2_10 rfl rfl ?_
                                  refine g_iald X0 K (q := 12) (v := (.int (8204 : Int32))) e0 ((v0 H).ext Ol0.2) (by decide) rfl d2_11 rfl ?_
                                  by_cases hR9 : 8204 ≤ p1.toInt ∧ p1.toInt ≤ 8205
                                  · refine g_icN X0 K (q := 15) d2_12 (flt (own_nltI (m := 8204) rfl (by omega))).1 rfl ?_
                                    refine g_iloadN X0 K (q := 16) d2_15 rfl rfl ?_
                                    refine g_aloadN X0 K (q := 17) d2_16 rfl rfl rfl ?_
                                    refine g_iloadN X0 K (q := 18) d2_17 rfl rfl ?_
                                    refine g_iconst X0 K (q := 19) (v := (1 : Int32)) d2_18 (by decide) rfl ?_
                                    refine g_iadd X0 K (q := 20) d2_19 (z := (17 : Int32)) (by decide) rfl ?_
                                    refine g_iald X0 K (q := 21) (v := (.int (8205 : Int32))) e0 ((v0 H).ext Ol0.2) (by decide) rfl d2_20 rfl ?_
                                    refine g_icN X0 K (q := 24) d2_21 (flt (own_ngtI (m := 8205) rfl (by omega))).2.2.1 rfl ?_
                                    refine g_iconst X0 K (q := 25) (v := (1 : Int32)) d2_24 (by decide) rfl ?_
                                    refine g_nret X0 K (by simp) (z' := (1 : Int32)) (by decide) d2_25 (by decide) (by decide) ?_
                                    exact ⟨own_some (by unfold inS; exact own_if1 (by omega)), N0, e0⟩
                                  · refine g_join (T := T0) (g := (mkF m 26 #[.val (.ref (ad0 Z a0)), .val (.int p1), .val (.int (16 : Int32))] [])) ?_ fun j9 => ?_
                                    · refine g_iinc X0 K (q := 29) (z := (18 : Int32)) (L' := #[.val (.ref (ad0 Z a0)), .val (.int p1), .val (.int (18 : Int32))]) d2_26 rfl (by decide) rfl rfl ?_
                                      refine g_goto X0 K (q := 2) d2_29 (by decide) (by decide) ?_
                                      refine g_iloadN X0 K (q := 3) d2_2 rfl rfl ?_
                                      refine g_aloadN X0 K (q := 4) d2_3 rfl rfl rfl ?_
                                      refine g_len X0 K (q := 5) e0 ((v0 H).ext Ol0.2) d2_4 rfl ?_
                                      refine g_icN X0 K (q := 8) d2_5 (by decide) rfl ?_
                                      refine g_iloadN X0 K (q := 9) d2_8 rfl rfl ?_
                                      refine g_aloadN X0 K (q := 10) d2_9 rfl rfl rfl ?_
                                      refine g_iloadN X0 K (q := 11) d2_10 rfl rfl ?_
                                      refine g_iald X0 K (q := 12) (v := (.int (8304 : Int32))) e0 ((v0 H).ext Ol0.2) (by decide) rfl d2_11 rfl ?_
                                      by_cases hR10 : 8304 ≤ p1.toInt ∧ p1.toInt ≤ 8591
                                      · refine g_icN X0 K (q := 15) d2_12 (flt (own_nltI (m := 8304) rfl (by omega))).1 rfl ?_
                                        refine g_iloadN X0 K (q := 16) d2_15 rfl rfl ?_
                                        refine g_aloadN X0 K (q := 17) d2_16 rfl rfl rfl ?_
                                        refine g_iloadN X0 K (q := 18) d2_17 rfl rfl ?_
                                        refine g_iconst X0 K (q := 19) (v := (1 : Int32)) d2_18 (by decide) rfl ?_
                                        refine g_iadd X0 K (q := 20) d2_19 (z := (19 : Int32)) (by decide) rfl ?_
                                        refine g_iald X0 K (q := 21) (v := (.int (8591 : Int32))) e0 ((v0 H).ext Ol0.2) (by decide) rfl d2_20 rfl ?_
                                        refine g_icN X0 K (q := 24) d2_21 (flt (own_ngtI (m := 8591) rfl (by omega))).2.2.1 rfl ?_
                                        refine g_iconst X0 K (q := 25) (v := (1 : Int32)) d2_24 (by decide) rfl ?_
                                        refine g_nret X0 K (by simp) (z' := (1 : Int32)) (by decide) d2_25 (by decide) (by decide) ?_
                                        exact ⟨own_some (by unfold inS; exact own_if1 (by omega)), N0, e0⟩
                                      · refine g_join (T := T0) (g := (mkF m 26 #[.val (.ref (ad0 Z a0)), .val (.int p1), .val (.int (18 : Int32))] [])) ?_ fun j10 => ?_
                                        · refine g_iinc X0 K (q := 29) (z := (20 : Int32)) (L' := #[.val (.ref (ad0 Z a0)), .val (.int p1), .val (.int (20 : Int32))]) d2_26 rfl (by decide) rfl rfl ?_
                                          refine g_goto X0 K (q := 2) d2_29 (by decide) (by decide) ?_
                                          refine g_iloadN X0 K (q := 3) d2_2 rfl rfl ?_
                                          refine g_aloadN X0 K (q := 4) d2_3 rfl rfl rfl ?_
                                          refine g_len X0 K (q := 5) e0 ((v0 H).ext Ol0.2) d2_4 rfl ?_
                                          refine g_icN X0 K (q := 8) d2_5 (by decide) rfl ?_
                                          refine g_iloadN X0 K (q := 9) d2_8 rfl rfl ?_
                                          refine g_aloadN X0 K (q := 10) d2_9 rfl rfl rfl ?_
                                          refine g_iloadN X0 K (q := 11) d2_10 rfl rfl ?_
                                          refine g_iald X0 K (q := 12) (v := (.int (11264 : Int32))) e0 ((v0 H).ext Ol0.2) (by decide) rfl d2_11 rfl ?_
                                          by_cases hR11 : 11264 ≤ p1.toInt ∧ p1.toInt ≤ 12271
                                          · refine g_icN X0 K (q := 15) d2_12 (flt (own_nltI (m := 11264) rfl (by omega))).1 rfl ?_
                                            refine g_iloadN X0 K (q := 16) d2_15 rfl rfl ?_
                                            refine g_aloadN X0 K (q := 17) d2_16 rfl rfl rfl ?_
                                            refine g_iloadN X0 K (q := 18) d2_17 rfl rfl ?_
                                            refine g_iconst X0 K (q := 19) (v := (1 : Int32)) d2_18 (by decide) rfl ?_
                                            refine g_iadd X0 K (q := 20) d2_19 (z := (21 : Int32)) (by decide) rfl ?_
                                            refine g_iald X0 K (q := 21) (v := (.int (12271 : Int32))) e0 ((v0 H).ext Ol0.2) (by decide) rfl d2_20 rfl ?_
                                            refine g_icN X0 K (q := 24) d2_21 (flt (own_ngtI (m := 12271) rfl (by omega))).2.2.1 rfl ?_
                                            refine g_iconst X0 K (q := 25) (v := (1 : Int32)) d2_24 (by decide) rfl ?_
                                            refine g_nret X0 K (by simp) (z' := (1 : Int32)) (by decide) d2_25 (by decide) (by decide) ?_
                                            exact ⟨own_some (by unfold inS; exact own_if1 (by omega)), N0, e0⟩
                                          · refine g_join (T := T0) (g := (mkF m 26 #[.val (.ref (ad0 Z a0)), .val (.int p1), .val (.int (20 : Int32))] [])) ?_ fun j11 => ?_
                                            · refine g_iinc X0 K (q := 29) (z := (22 : Int32)) (L' := #[.val (.ref (ad0 Z a0)), .val (.int p1), .val (.int (22 : Int32))]) d2_26 rfl (by decide) rfl rfl ?_
                                              refine g_goto X0 K (q := 2) d2_29 (by decide) (by decide) ?_
                                              refine g_iloadN X0 K (q := 3) d2_2 rfl rfl ?_
                                              refine g_aloadN X0 K (q := 4) d2_3 rfl rfl rfl ?_
                                              refine g_len X0 K (q := 5) e0 ((v0 H).ext Ol0.2) d2_4 rfl ?_
                                              refine g_icN X0 K (q := 8) d2_5 (by decide) rfl ?_
                                              refine g_iloadN X0 K (q := 9) d2_8 rfl rfl ?_
                                              refine g_aloadN X0 K (q := 10) d2_9 rfl rfl rfl ?_
                                              refine g_iloadN X0 K (q := 11) d2_10 rfl rfl ?_
                                              refine g_iald X0 K (q := 12) (v := (.int (12289 : Int32))) e0 ((v0 H).ext Ol0.2) (by decide) rfl d2_11 rfl ?_
                                              by_cases hR12 : 12289 ≤ p1.toInt ∧ p1.toInt ≤ 55295
                                              · refine g_icN X0 K (q := 15) d2_12 (flt (own_nltI (m := 12289) rfl (by omega))).1 rfl ?_
                                                refine g_iloadN X0 K (q := 16) d2_15 rfl rfl ?_
                                                refine g_aloadN X0 K (q := 17) d2_16 rfl rfl rfl ?_
                                                refine g_iloadN X0 K (q := 18) d2_17 rfl rfl ?_
                                                refine g_iconst X0 K (q := 19) (v := (1 : Int32)) d2_18 (by decide) rfl ?_
                                                refine g_iadd X0 K (q := 20) d2_19 (z := (23 : Int32)) (by decide) rfl ?_
                                                refine g_iald X0 K (q := 21) (v := (.int (55295 : Int32))) e0 ((v0 H).ext Ol0.2) (by decide) rfl d2_20 rfl ?_
                                                refine g_icN X0 K (q := 24) d2_21 (flt (own_ngtI (m := 55295) rfl (by omega))).2.2.1 rfl ?_
                                                refine g_iconst X0 K (q := 25) (v := (1 : Int32)) d2_24 (by decide) rfl ?_
                                                refine g_nret X0 K (by simp) (z' := (1 : Int32)) (by decide) d2_25 (by decide) (by decide) ?_
                                                exact ⟨own_some (by unfold inS; exact own_if1 (by omega)), N0, e0⟩
                                              · refine g_join (T := T0) (g := (mkF m 26 #[.val (.ref (ad0 Z a0)), .val (.int p1), .val (.int (22 : Int32))] [])) ?_ fun j12 => ?_
                                                · refine g_iinc X0 K (q := 29) (z := (24 : Int32)) (L' := #[.val (.ref (ad0 Z a0)), .val (.int p1), .val (.int (24 : Int32))]) d2_26 rfl (by decide) rfl rfl ?_
                                                  refine g_goto X0 K (q := 2) d2_29 (by decide) (by decide) ?_
                                                  refine g_iloadN X0 K (q := 3) d2_2 rfl rfl ?_
                                                  refine g_aloadN X0 K (q := 4) d2_3 rfl rfl rfl ?_
                                                  refine g_len X0 K (q := 5) e0 ((v0 H).ext Ol0.2) d2_4 rfl ?_
                                                  refine g_icN X0 K (q := 8) d2_5 (by decide) rfl ?_
                                                  refine g_iloadN X0 K (q := 9) d2_8 rfl rfl ?_
                                                  refine g_aloadN X0 K (q := 10) d2_9 rfl rfl rfl ?_
                                                  refine g_iloadN X0 K (q := 11) d2_10 rfl rfl ?_
                                                  refine g_iald X0 K (q := 12) (v := (.int (63744 : Int32))) e0 ((v0 H).ext Ol0.2) (by decide) rfl d2_11 rfl ?_
                                                  by_cases hR13 : 63744 ≤ p1.toInt ∧ p1.toInt ≤ 64975
                                                  · refine g_icN X0 K (q := 15) d2_12 (flt (own_nltI (m := 63744) rfl (by omega))).1 rfl ?_
                                                    refine g_iloadN X0 K (q := 16) d2_15 rfl rfl ?_
                                                    refine g_aloadN X0 K (q := 17) d2_16 rfl rfl rfl ?_
                                                    refine g_iloadN X0 K (q := 18) d2_17 rfl rfl ?_
                                                    refine g_iconst X0 K (q := 19) (v := (1 : Int32)) d2_18 (by decide) rfl ?_
                                                    refine g_iadd X0 K (q := 20) d2_19 (z := (25 : Int32)) (by decide) rfl ?_
                                                    refine g_iald X0 K (q := 21) (v := (.int (64975 : Int32))) e0 ((v0 H).ext Ol0.2) (by decide) rfl d2_20 rfl ?_
                                                    refine g_icN X0 K (q := 24) d2_21 (flt (own_ngtI (m := 64975) rfl (by omega))).2.2.1 rfl ?_
                                                    refine g_iconst X0 K (q := 25) (v := (1 : Int32)) d2_24 (by decide) rfl ?_
                                                    refine g_nret X0 K (by simp) (z' := (1 : Int32)) (by decide) d2_25 (by decide) (by decide) ?_
                                                    exact ⟨own_some (by unfold inS; exact own_if1 (by omega)), N0, e0⟩
                                                  · refine g_join (T := T0) (g := (mkF m 26 #[.val (.ref (ad0 Z a0)), .val (.int p1), .val (.int (24 : Int32))] [])) ?_ fun j13 => ?_
                                                    · refine g_iinc X0 K (q := 29) (z := (26 : Int32)) (L' := #[.val (.ref (ad0 Z a0)), .val (.int p1), .val (.int (26 : Int32))]) d2_26 rfl (by decide) rfl rfl ?_
                                                      refine g_goto X0 K (q := 2) d2_29 (by decide) (by decide) ?_
                                                      refine g_iloadN X0 K (q := 3) d2_2 rfl rfl ?_
                                                      refine g_aloadN X0 K (q := 4) d2_3 rfl rfl rfl ?_
                                                      refine g_len X0 K (q := 5) e0 ((v0 H).ext Ol0.2) d2_4 rfl ?_
                                                      refine g_icN X0 K (q := 8) d2_5 (by decide) rfl ?_
                                                      refine g_iloadN X0 K (q := 9) d2_8 rfl rfl ?_
                                                      refine g_aloadN X0 K (q := 10) d2_9 rfl rfl rfl ?_
                                                      refine g_iloadN X0 K (q := 11) d2_10 rfl rfl ?_
                                                      refine g_iald X0 K (q := 12) (v := (.int (65008 : Int32))) e0 ((v0 H).ext Ol0.2) (by decide) rfl d2_11 rfl ?_
                                                      by_cases hR14 : 65008 ≤ p1.toInt ∧ p1.toInt ≤ 65533
                                                      · refine g_icN X0 K (q := 15) d2_12 (flt (own_nltI (m := 65008) rfl (by omega))).1 rfl ?_
                                                        refine g_iloadN X0 K (q := 16) d2_15 rfl rfl ?_
                                                        refine g_aloadN X0 K (q := 17) d2_16 rfl rfl rfl ?_
                                                        refine g_iloadN X0 K (q := 18) d2_17 rfl rfl ?_
                                                        refine g_iconst X0 K (q := 19) (v := (1 : Int32)) d2_18 (by decide) rfl ?_
                                                        refine g_iadd X0 K (q := 20) d2_19 (z := (27 : Int32)) (by decide) rfl ?_
                                                        refine g_iald X0 K (q := 21) (v := (.int (65533 : Int32))) e0 ((v0 H).ext Ol0.2) (by decide) rfl d2_20 rfl ?_
                                                        refine g_icN X0 K (q := 24) d2_21 (flt (own_ngtI (m := 65533) rfl (by omega))).2.2.1 rfl ?_
                                                        refine g_iconst X0 K (q := 25) (v := (1 : Int32)) d2_24 (by decide) rfl ?_
                                                        refine g_nret X0 K (by simp) (z' := (1 : Int32)) (by decide) d2_25 (by decide) (by decide) ?_
                                                        exact ⟨own_some (by unfold inS; exact own_if1 (by omega)), N0, e0⟩
                                                      · refine g_join (T := T0) (g := (mkF m 26 #[.val (.ref (ad0 Z a0)), .val (.int p1), .val (.int (26 : Int32))] [])) ?_ fun j14 => ?_
                                                        · refine g_iinc X0 K (q := 29) (z := (28 : Int32)) (L' := #[.val (.ref (ad0 Z a0)), .val (.int p1), .val (.int (28 : Int32))]) d2_26 rfl (by decide) rfl rfl ?_
                                                          refine g_goto X0 K (q := 2) d2_29 (by decide) (by decide) ?_
                                                          refine g_iloadN X0 K (q := 3) d2_2 rfl rfl ?_
                                                          refine g_aloadN X0 K (q := 4) d2_3 rfl rfl rfl ?_
                                                          refine g_len X0 K (q := 5) e0 ((v0 H).ext Ol0.2) d2_4 rfl ?_
                                                          refine g_icN X0 K (q := 8) d2_5 (by decide) rfl ?_
                                                          refine g_iloadN X0 K (q := 9) d2_8 rfl rfl ?_
                                                          refine g_aloadN X0 K (q := 10) d2_9 rfl rfl rfl ?_
                                                          refine g_iloadN X0 K (q := 11) d2_10 rfl rfl ?_
                                                          refine g_iald X0 K (q := 12) (v := (.int (65536 : Int32))) e0 ((v0 H).ext Ol0.2) (by decide) rfl d2_11 rfl ?_
                                                          by_cases hR15 : 65536 ≤ p1.toInt ∧ p1.toInt ≤ 983039
                                                          · refine g_icN X0 K (q := 15) d2_12 (flt (own_nltI (m := 65536) rfl (by omega))).1 rfl ?_
                                                            refine g_iloadN X0 K (q := 16) d2_15 rfl rfl ?_
                                                            refine g_aloadN X0 K (q := 17) d2_16 rfl rfl rfl ?_
                                                            refine g_iloadN X0 K (q := 18) d2_17 rfl rfl ?_
                                                            refine g_iconst X0 K (q := 19) (v := (1 : Int32)) d2_18 (by decide) rfl ?_
                                                            refine g_iadd X0 K (q := 20) d2_19 (z := (29 : Int32)) (by decide) rfl ?_
                                                            refine g_iald X0 K (q := 21) (v := (.int (983039 : Int32))) e0 ((v0 H).ext Ol0.2) (by decide) rfl d2_20 rfl ?_
                                                            refine g_icN X0 K (q := 24) d2_21 (flt (own_ngtI (m := 983039) rfl (by omega))).2.2.1 rfl ?_
                                                            refine g_iconst X0 K (q := 25) (v := (1 : Int32)) d2_24 (by decide) rfl ?_
                                                            refine g_nret X0 K (by simp) (z' := (1 : Int32)) (by decide) d2_25 (by decide) (by decide) ?_
                                                            exact ⟨own_some (by unfold inS; exact own_if1 (by omega)), N0, e0⟩
                                                          · refine g_join (T := T0) (g := (mkF m 26 #[.val (.ref (ad0 Z a0)), .val (.int p1), .val (.int (28 : Int32))] [])) ?_ fun j15 => ?_
                                                            · refine g_iinc X0 K (q := 29) (z := (30 : Int32)) (L' := #[.val (.ref (ad0 Z a0)), .val (.int p1), .val (.int (30 : Int32))]) d2_26 rfl (by decide) rfl rfl ?_
                                                              refine g_goto X0 K (q := 2) d2_29 (by decide) (by decide) ?_
                                                              refine g_iloadN X0 K (q := 3) d2_2 rfl rfl ?_
                                                              refine g_aloadN X0 K (q := 4) d2_3 rfl rfl rfl ?_
                                                              refine g_len X0 K (q := 5) e0 ((v0 H).ext Ol0.2) d2_4 rfl ?_
                                                              refine g_icY X0 K (q := 32) d2_5 (by decide) (by decide) (by decide) ?_
                                                              refine g_iconst X0 K (q := 33) (v := (0 : Int32)) d2_32 (by decide) rfl ?_
                                                              refine g_nret X0 K (by simp) (z' := (0 : Int32)) (by decide) d2_33 (by decide) (by decide) ?_
                                                              exact ⟨own_some (by unfold inS; exact own_if0 (by omega)), N0, e0⟩
                                                            · by_cases hc1 : p1 < (65536 : Int32)
                                                              · refine g_icY X0 K (q := 26) d2_12 (tlt hc1).1 (by decide) (by decide) ?_
                                                                exact j15
                                                              · have thc1 := own_nltE (m := 65536) rfl hc1
                                                                refine g_icN X0 K (q := 15) d2_12 (flt hc1).1 rfl ?_
                                                                refine g_iloadN X0 K (q := 16) d2_15 rfl rfl ?_
                                                                refine g_aloadN X0 K (q := 17) d2_16 rfl rfl rfl ?_
                                                                refine g_iloadN X0 K (q := 18) d2_17 rfl rfl ?_
                                                                refine g_iconst X0 K (q := 19) (v := (1 : Int32)) d2_18 (by decide) rfl ?_
                                                                refine g_iadd X0 K (q := 20) d2_19 (z := (29 : Int32)) (by decide) rfl ?_
                                                                refine g_iald X0 K (q := 21) (v := (.int (983039 : Int32))) e0 ((v0 H).ext Ol0.2) (by decide) rfl d2_20 rfl ?_
                                                                refine g_icY X0 K (q := 26) d2_21 (tlt (own_gtI (m := 983039) rfl (by omega))).2.2.1 (by decide) (by decide) ?_
                                                                exact j15
                                                        · by_cases hc2 : p1 < (65008 : Int32)
                                                          · refine g_icY X0 K (q := 26) d2_12 (tlt hc2).1 (by decide) (by decide) ?_
                                                            exact j14
                                                          · have thc2 := own_nltE (m := 65008) rfl hc2
                                                            refine g_icN X0 K (q := 15) d2_12 (flt hc2).1 rfl ?_
                                                            refine g_iloadN X0 K (q := 16) d2_15 rfl rfl ?_
                                                            refine g_aloadN X0 K (q := 17) d2_16 rfl rfl rfl ?_
                                                            refine g_iloadN X0 K (q := 18) d2_17 rfl rfl ?_
                                                            refine g_iconst X0 K (q := 19) (v := (1 : Int32)) d2_18 (by decide) rfl ?_
                                                            refine g_iadd X0 K (q := 20) d2_19 (z := (27 : Int32)) (by decide) rfl ?_
                                                            refine g_iald X0 K (q := 21) (v := (.int (65533 : Int32))) e0 ((v0 H).ext Ol0.2) (by decide) rfl d2_20 rfl ?_
                                                            refine g_icY X0 K (q := 26) d2_21 (tlt (own_gtI (m := 65533) rfl (by omega))).2.2.1 (by decide) (by decide) ?_
                                                            exact j14
                                                    · by_cases hc3 : p1 < (63744 : Int32)
                                                      · refine g_icY X0 K (q := 26) d2_12 (tlt hc3).1 (by decide) (by decide) ?_
                                                        exact j13
                                                      · have thc3 := own_nltE (m := 63744) rfl hc3
                                                        refine g_icN X0 K (q := 15) d2_12 (flt hc3).1 rfl ?_
                                                        refine g_iloadN X0 K (q := 16) d2_15 rfl rfl ?_
                                                        refine g_aloadN X0 K (q := 17) d2_16 rfl rfl rfl ?_
                                                        refine g_iloadN X0 K (q := 18) d2_17 rfl rfl ?_
                                                        refine g_iconst X0 K (q := 19) (v := (1 : Int32)) d2_18 (by decide) rfl ?_
                                                        refine g_iadd X0 K (q := 20) d2_19 (z := (25 : Int32)) (by decide) rfl ?_
                                                        refine g_iald X0 K (q := 21) (v := (.int (64975 : Int32))) e0 ((v0 H).ext Ol0.2) (by decide) rfl d2_20 rfl ?_
                                                        refine g_icY X0 K (q := 26) d2_21 (tlt (own_gtI (m := 64975) rfl (by omega))).2.2.1 (by decide) (by decide) ?_
                                                        exact j13
                                                · by_cases hc4 : p1 < (12289 : Int32)
                                                  · refine g_icY X0 K (q := 26) d2_12 (tlt hc4).1 (by decide) (by decide) ?_
                                                    exact j12
                                                  · have thc4 := own_nltE (m := 12289) rfl hc4
                                                    refine g_icN X0 K (q := 15) d2_12 (flt hc4).1 rfl ?_
                                                    refine g_iloadN X0 K (q := 16) d2_15 rfl rfl ?_
                                                    refine g_aloadN X0 K (q := 17) d2_16 rfl rfl rfl ?_
                                                    refine g_iloadN X0 K (q := 18) d2_17 rfl rfl ?_
                                                    refine g_iconst X0 K (q := 19) (v := (1 : Int32)) d2_18 (by decide) rfl ?_
                                                    refine g_iadd X0 K (q := 20) d2_19 (z := (23 : Int32)) (by decide) rfl ?_
                                                    refine g_iald X0 K (q := 21) (v := (.int (55295 : Int32))) e0 ((v0 H).ext Ol0.2) (by decide) rfl d2_20 rfl ?_
                                                    refine g_icY X0 K (q := 26) d2_21 (tlt (own_gtI (m := 55295) rfl (by omega))).2.2.1 (by decide) (by decide) ?_
                                                    exact j12
                                            · by_cases hc5 : p1 < (11264 : Int32)
                                              · refine g_icY X0 K (q := 26) d2_12 (tlt hc5).1 (by decide) (by decide) ?_
                                                exact j11
                                              · have thc5 := own_nltE (m := 11264) rfl hc5
                                                refine g_icN X0 K (q := 15) d2_12 (flt hc5).1 rfl ?_
                                                refine g_iloadN X0 K (q := 16) d2_15 rfl rfl ?_
                                                refine g_aloadN X0 K (q := 17) d2_16 rfl rfl rfl ?_
                                                refine g_iloadN X0 K (q := 18) d2_17 rfl rfl ?_
                                                refine g_iconst X0 K (q := 19) (v := (1 : Int32)) d2_18 (by decide) rfl ?_
                                                refine g_iadd X0 K (q := 20) d2_19 (z := (21 : Int32)) (by decide) rfl ?_
                                                refine g_iald X0 K (q := 21) (v := (.int (12271 : Int32))) e0 ((v0 H).ext Ol0.2) (by decide) rfl d2_20 rfl ?_
                                                refine g_icY X0 K (q := 26) d2_21 (tlt (own_gtI (m := 12271) rfl (by omega))).2.2.1 (by decide) (by decide) ?_
                                                exact j11
                                        · by_cases hc6 : p1 < (8304 : Int32)
                                          · refine g_icY X0 K (q := 26) d2_12 (tlt hc6).1 (by decide) (by decide) ?_
                                            exact j10
                                          · have thc6 := own_nltE (m := 8304) rfl hc6
                                            refine g_icN X0 K (q := 15) d2_12 (flt hc6).1 rfl ?_
                                            refine g_iloadN X0 K (q := 16) d2_15 rfl rfl ?_
                                            refine g_aloadN X0 K (q := 17) d2_16 rfl rfl rfl ?_
                                            refine g_iloadN X0 K (q := 18) d2_17 rfl rfl ?_
                                            refine g_iconst X0 K (q := 19) (v := (1 : Int32)) d2_18 (by decide) rfl ?_
                                            refine g_iadd X0 K (q := 20) d2_19 (z := (19 : Int32)) (by decide) rfl ?_
                                            refine g_iald X0 K (q := 21) (v := (.int (8591 : Int32))) e0 ((v0 H).ext Ol0.2) (by decide) rfl d2_20 rfl ?_
                                            refine g_icY X0 K (q := 26) d2_21 (tlt (own_gtI (m := 8591) rfl (by omega))).2.2.1 (by decide) (by decide) ?_
                                            exact j10
                                    · by_cases hc7 : p1 < (8204 : Int32)
                                      · refine g_icY X0 K (q := 26) d2_12 (tlt hc7).1 (by decide) (by decide) ?_
                                        exact j9
                                      · have thc7 := own_nltE (m := 8204) rfl hc7
                                        refine g_icN X0 K (q := 15) d2_12 (flt hc7).1 rfl ?_
                                        refine g_iloadN X0 K (q := 16) d2_15 rfl rfl ?_
                                        refine g_aloadN X0 K (q := 17) d2_16 rfl rfl rfl ?_
                                        refine g_iloadN X0 K (q := 18) d2_17 rfl rfl ?_
                                        refine g_iconst X0 K (q := 19) (v := (1 : Int32)) d2_18 (by decide) rfl ?_
                                        refine g_iadd X0 K (q := 20) d2_19 (z := (17 : Int32)) (by decide) rfl ?_
                                        refine g_iald X0 K (q := 21) (v := (.int (8205 : Int32))) e0 ((v0 H).ext Ol0.2) (by decide) rfl d2_20 rfl ?_
                                        refine g_icY X0 K (q := 26) d2_21 (tlt (own_gtI (m := 8205) rfl (by omega))).2.2.1 (by decide) (by decide) ?_
                                        exact j9
                                · by_cases hc8 : p1 < (895 : Int32)
                                  · refine g_icY X0 K (q := 26) d2_12 (tlt hc8).1 (by decide) (by decide) ?_
                                    exact j8
                                  · have thc8 := own_nltE (m := 895) rfl hc8
                                    refine g_icN X0 K (q := 15) d2_12 (flt hc8).1 rfl ?_
                                    refine g_iloadN X0 K (q := 16) d2_15 rfl rfl ?_
                                    refine g_aloadN X0 K (q := 17) d2_16 rfl rfl rfl ?_
                                    refine g_iloadN X0 K (q := 18) d2_17 rfl rfl ?_
                                    refine g_iconst X0 K (q := 19) (v := (1 : Int32)) d2_18 (by decide) rfl ?_
                                    refine g_iadd X0 K (q := 20) d2_19 (z := (15 : Int32)) (by decide) rfl ?_
                                    refine g_iald X0 K (q := 21) (v := (.int (8191 : Int32))) e0 ((v0 H).ext Ol0.2) (by decide) rfl d2_20 rfl ?_
                                    refine g_icY X0 K (q := 26) d2_21 (tlt (own_gtI (m := 8191) rfl (by omega))).2.2.1 (by decide) (by decide) ?_
                                    exact j8
                            · by_cases hc9 : p1 < (880 : Int32)
                              · refine g_icY X0 K (q := 26) d2_12 (tlt hc9).1 (by decide) (by decide) ?_
                                exact j7
                              · have thc9 := own_nltE (m := 880) rfl hc9
                                refine g_icN X0 K (q := 15) d2_12 (flt hc9).1 rfl ?_
                                refine g_iloadN X0 K (q := 16) d2_15 rfl rfl ?_
                                refine g_aloadN X0 K (q := 17) d2_16 rfl rfl rfl ?_
                                refine g_iloadN X0 K (q := 18) d2_17 rfl rfl ?_
                                refine g_iconst X0 K (q := 19) (v := (1 : Int32)) d2_18 (by decide) rfl ?_
                                refine g_iadd X0 K (q := 20) d2_19 (z := (13 : Int32)) (by decide) rfl ?_
                                refine g_iald X0 K (q := 21) (v := (.int (893 : Int32))) e0 ((v0 H).ext Ol0.2) (by decide) rfl d2_20 rfl ?_
                                refine g_icY X0 K (q := 26) d2_21 (tlt (own_gtI (m := 893) rfl (by omega))).2.2.1 (by decide) (by decide) ?_
                                exact j7
                        · by_cases hc10 : p1 < (248 : Int32)
                          · refine g_icY X0 K (q := 26) d2_12 (tlt hc10).1 (by decide) (by decide) ?_
                            exact j6
                          · have thc10 := own_nltE (m := 248) rfl hc10
                            refine g_icN X0 K (q := 15) d2_12 (flt hc10).1 rfl ?_
                            refine g_iloadN X0 K (q := 16) d2_15 rfl rfl ?_
                            refine g_aloadN X0 K (q := 17) d2_16 rfl rfl rfl ?_
                            refine g_iloadN X0 K (q := 18) d2_17 rfl rfl ?_
                            refine g_iconst X0 K (q := 19) (v := (1 : Int32)) d2_18 (by decide) rfl ?_
                            refine g_iadd X0 K (q := 20) d2_19 (z := (11 : Int32)) (by decide) rfl ?_
                            refine g_iald X0 K (q := 21) (v := (.int (767 : Int32))) e0 ((v0 H).ext Ol0.2) (by decide) rfl d2_20 rfl ?_
                            refine g_icY X0 K (q := 26) d2_21 (tlt (own_gtI (m := 767) rfl (by omega))).2.2.1 (by decide) (by decide) ?_
                            exact j6
                    · by_cases hc11 : p1 < (216 : Int32)
                      · refine g_icY X0 K (q := 26) d2_12 (tlt hc11).1 (by decide) (by decide) ?_
                        exact j5
                      · have thc11 := own_nltE (m := 216) rfl hc11
                        refine g_icN X0 K (q := 15) d2_12 (flt hc11).1 rfl ?_
                        refine g_iloadN X0 K (q := 16) d2_15 rfl rfl ?_
                        refine g_aloadN X0 K (q := 17) d2_16 rfl rfl rfl ?_
                        refine g_iloadN X0 K (q := 18) d2_17 rfl rfl ?_
                        refine g_iconst X0 K (q := 19) (v := (1 : Int32)) d2_18 (by decide) rfl ?_
                        refine g_iadd X0 K (q := 20) d2_19 (z := (9 : Int32)) (by decide) rfl ?_
                        refine g_iald X0 K (q := 21) (v := (.int (246 : Int32))) e0 ((v0 H).ext Ol0.2) (by decide) rfl d2_20 rfl ?_
                        refine g_icY X0 K (q := 26) d2_21 (tlt (own_gtI (m := 246) rfl (by omega))).2.2.1 (by decide) (by decide) ?_
                        exact j5
                · by_cases hc12 : p1 < (192 : Int32)
                  · refine g_icY X0 K (q := 26) d2_12 (tlt hc12).1 (by decide) (by decide) ?_
                    exact j4
                  · have thc12 := own_nltE (m := 192) rfl hc12
                    refine g_icN X0 K (q := 15) d2_12 (flt hc12).1 rfl ?_
                    refine g_iloadN X0 K (q := 16) d2_15 rfl rfl ?_
                    refine g_aloadN X0 K (q := 17) d2_16 rfl rfl rfl ?_
                    refine g_iloadN X0 K (q := 18) d2_17 rfl rfl ?_
                    refine g_iconst X0 K (q := 19) (v := (1 : Int32)) d2_18 (by decide) rfl ?_
                    refine g_iadd X0 K (q := 20) d2_19 (z := (7 : Int32)) (by decide) rfl ?_
                    refine g_iald X0 K (q := 21) (v := (.int (214 : Int32))) e0 ((v0 H).ext Ol0.2) (by decide) rfl d2_20 rfl ?_
                    refine g_icY X0 K (q := 26) d2_21 (tlt (own_gtI (m := 214) rfl (by omega))).2.2.1 (by decide) (by decide) ?_
                    exact j4
            · by_cases hc13 : p1 < (97 : Int32)
              · refine g_icY X0 K (q := 26) d2_12 (tlt hc13).1 (by decide) (by decide) ?_
                exact j3
              · have thc13 := own_nltE (m := 97) rfl hc13
                refine g_icN X0 K (q := 15) d2_12 (flt hc13).1 rfl ?_
                refine g_iloadN X0 K (q := 16) d2_15 rfl rfl ?_
                refine g_aloadN X0 K (q := 17) d2_16 rfl rfl rfl ?_
                refine g_iloadN X0 K (q := 18) d2_17 rfl rfl ?_
                refine g_iconst X0 K (q := 19) (v := (1 : Int32)) d2_18 (by decide) rfl ?_
                refine g_iadd X0 K (q := 20) d2_19 (z := (5 : Int32)) (by decide) rfl ?_
                refine g_iald X0 K (q := 21) (v := (.int (122 : Int32))) e0 ((v0 H).ext Ol0.2) (by decide) rfl d2_20 rfl ?_
                refine g_icY X0 K (q := 26) d2_21 (tlt (own_gtI (m := 122) rfl (by omega))).2.2.1 (by decide) (by decide) ?_
                exact j3
        · by_cases hc14 : p1 < (95 : Int32)
          · refine g_icY X0 K (q := 26) d2_12 (tlt hc14).1 (by decide) (by decide) ?_
            exact j2
          · have thc14 := own_nltE (m := 95) rfl hc14
            refine g_icN X0 K (q := 15) d2_12 (flt hc14).1 rfl ?_
            refine g_iloadN X0 K (q := 16) d2_15 rfl rfl ?_
            refine g_aloadN X0 K (q := 17) d2_16 rfl rfl rfl ?_
            refine g_iloadN X0 K (q := 18) d2_17 rfl rfl ?_
            refine g_iconst X0 K (q := 19) (v := (1 : Int32)) d2_18 (by decide) rfl ?_
            refine g_iadd X0 K (q := 20) d2_19 (z := (3 : Int32)) (by decide) rfl ?_
            refine g_iald X0 K (q := 21) (v := (.int (95 : Int32))) e0 ((v0 H).ext Ol0.2) (by decide) rfl d2_20 rfl ?_
            refine g_icY X0 K (q := 26) d2_21 (tlt (own_gtI (m := 95) rfl (by omega))).2.2.1 (by decide) (by decide) ?_
            exact j2
    · by_cases hc15 : p1 < (65 : Int32)
      · refine g_icY X0 K (q := 26) d2_12 (tlt hc15).1 (by decide) (by decide) ?_
        exact j1
      · have thc15 := own_nltE (m := 65) rfl hc15
        refine g_icN X0 K (q := 15) d2_12 (flt hc15).1 rfl ?_
        refine g_iloadN X0 K (q := 16) d2_15 rfl rfl ?_
        refine g_aloadN X0 K (q := 17) d2_16 rfl rfl rfl ?_
        refine g_iloadN X0 K (q := 18) d2_17 rfl rfl ?_
        refine g_iconst X0 K (q := 19) (v := (1 : Int32)) d2_18 (by decide) rfl ?_
        refine g_iadd X0 K (q := 20) d2_19 (z := (1 : Int32)) (by decide) rfl ?_
        refine g_iald X0 K (q := 21) (v := (.int (90 : Int32))) e0 ((v0 H).ext Ol0.2) (by decide) rfl d2_20 rfl ?_
        refine g_icY X0 K (q := 26) d2_21 (tlt (own_gtI (m := 90) rfl (by omega))).2.2.1 (by decide) (by decide) ?_
        exact j1
set_option maxRecDepth 65536 in
set_option maxHeartbeats 40000000 in
theorem rm2_1 (l : Launch) {Z : State} {a0 : Array Value} (H : Hyp Z a0) (p1 : Int32) (h0 : Heap) (Ol : Old Z Z.heap.size h0) :
    Mt l Z (⟨"com/example/annotable/annotable/XmlNames", "in", "([II)Z"⟩ : MethodName) prog_49_method_9_code 3 (some .boolean) [] ({ frames := 0, cells := 0, slots := 0, locals := 0 } : Room) #[(.ref (ad1 Z a0)), (.int p1)] h0 (fun v h L => (v = some (.int (inL p1)) ∧ Fr Z.heap.size L ∧ h = h0)) := by
  refine g_body (plainFor_of_name pn_com_example_annotable_annotable_XmlNames) ?_
  intro p e s m below meth c T0 K X0 e0
  refine g_entry (ef_0 m (ad1 Z a0) p1) ?_
  have N0 : Fr Z.heap.size [] := Fr.nil _
  have Ol0 := Ol
  have Kp0 : Keep h0 h0 [] := Keep.refl h0 _
  refine g_iconst X0 K (q := 1) (v := (0 : Int32)) d2_0 (by decide) rfl ?_
  refine g_istoreN X0 K (q := 2) (L' := #[.val (.ref (ad1 Z a0)), .val (.int p1), .val (.int (0 : Int32))]) d2_1 rfl rfl ?_
  refine g_iloadN X0 K (q := 3) d2_2 rfl rfl ?_
  refine g_aloadN X0 K (q := 4) d2_3 rfl rfl rfl ?_
  refine g_len X0 K (q := 5) e0 ((v1 H).ext Ol0.2) d2_4 rfl ?_
  refine g_icN X0 K (q := 8) d2_5 (by decide) rfl ?_
  refine g_iloadN X0 K (q := 9) d2_8 rfl rfl ?_
  refine g_aloadN X0 K (q := 10) d2_9 rfl rfl rfl ?_
  refine g_iloadN X0 K (q := 11) d2_10 rfl rfl ?_
  refine g_iald X0 K (q := 12) (v := (.int (45 : Int32))) e0 ((v1 H).ext Ol0.2) (by decide) rfl d2_11 rfl ?_
  by_cases hR1 : 45 ≤ p1.toInt ∧ p1.toInt ≤ 46
  · refine g_icN X0 K (q := 15) d2_12 (flt (own_nltI (m := 45) rfl (by omega))).1 rfl ?_
    refine g_iloadN X0 K (q := 16) d2_15 rfl rfl ?_
    refine g_aloadN X0 K (q := 17) d2_16 rfl rfl rfl ?_
    refine g_iloadN X0 K (q := 18) d2_17 rfl rfl ?_
    refine g_iconst X0 K (q := 19) (v := (1 : Int32)) d2_18 (by decide) rfl ?_
    refine g_iadd X0 K (q := 20) d2_19 (z := (1 : Int32)) (by decide) rfl ?_
    refine g_iald X0 K (q := 21) (v := (.int (46 : Int32))) e0 ((v1 H).ext Ol0.2) (by decide) rfl d2_20 rfl ?_
    refine g_icN X0 K (q := 24) d2_21 (flt (own_ngtI (m := 46) rfl (by omega))).2.2.1 rfl ?_
    refine g_iconst X0 K (q := 25) (v := (1 : Int32)) d2_24 (by decide) rfl ?_
    refine g_nret X0 K (by simp) (z' := (1 : Int32)) (by decide) d2_25 (by decide) (by decide) ?_
    exact ⟨own_some (by unfold inL; exact own_if1 (by omega)), N0, e0⟩
  · refine g_join (T := T0) (g := (mkF m 26 #[.val (.ref (ad1 Z a0)), .val (.int p1), .val (.int (0 : Int32))] [])) ?_ fun j1 => ?_
    · refine g_iinc X0 K (q := 29) (z := (2 : Int32)) (L' := #[.val (.ref (ad1 Z a0)), .val (.int p1), .val (.int (2 : Int32))]) d2_26 rfl (by decide) rfl rfl ?_
      refine g_goto X0 K (q := 2) d2_29 (by decide) (by decide) ?_
      refine g_iloadN X0 K (q := 3) d2_2 rfl rfl ?_
      refine g_aloadN X0 K (q := 4) d2_3 rfl rfl rfl ?_
      refine g_len X0 K (q := 5) e0 ((v1 H).ext Ol0.2) d2_4 rfl ?_
      refine g_icN X0 K (q := 8) d2_5 (by decide) rfl ?_
      refine g_iloadN X0 K (q := 9) d2_8 rfl rfl ?_
      refine g_aloadN X0 K (q := 10) d2_9 rfl rfl rfl ?_
      refine g_iloadN X0 K (q := 11) d2_10 rfl rfl ?_
      refine g_iald X0 K (q := 12) (v := (.int (48 : Int32))) e0 ((v1 H).ext Ol0.2) (by decide) rfl d2_11 rfl ?_
      by_cases hR2 : 48 ≤ p1.toInt ∧ p1.toInt ≤ 57
      · refine g_icN X0 K (q := 15) d2_12 (flt (own_nltI (m := 48) rfl (by omega))).1 rfl ?_
        refine g_iloadN X0 K (q := 16) d2_15 rfl rfl ?_
        refine g_aloadN X0 K (q := 17) d2_16 rfl rfl rfl ?_
        refine g_iloadN X0 K (q := 18) d2_17 rfl rfl ?_
        refine g_iconst X0 K (q := 19) (v := (1 : Int32)) d2_18 (by decide) rfl ?_
        refine g_iadd X0 K (q := 20) d2_19 (z := (3 : Int32)) (by decide) rfl ?_
        refine g_iald X0 K (q := 21) (v := (.int (57 : Int32))) e0 ((v1 H).ext Ol0.2) (by decide) rfl d2_20 rfl ?_
        refine g_icN X0 K (q := 24) d2_21 (flt (own_ngtI (m := 57) rfl (by omega))).2.2.1 rfl ?_
        refine g_iconst X0 K (q := 25) (v := (1 : Int32)) d2_24 (by decide) rfl ?_
        refine g_nret X0 K (by simp) (z' := (1 : Int32)) (by decide) d2_25 (by decide) (by decide) ?_
        exact ⟨own_some (by unfold inL; exact own_if1 (by omega)), N0, e0⟩
      · refine g_join (T := T0) (g := (mkF m 26 #[.val (.ref (ad1 Z a0)), .val (.int p1), .val (.int (2 : Int32))] [])) ?_ fun j2 => ?_
        · refine g_iinc X0 K (q := 29) (z := (4 : Int32)) (L' := #[.val (.ref (ad1 Z a0)), .val (.int p1), .val (.int (4 : Int32))]) d2_26 rfl (by decide) rfl rfl ?_
          refine g_goto X0 K (q := 2) d2_29 (by decide) (by decide) ?_
          refine g_iloadN X0 K (q := 3) d2_2 rfl rfl ?_
          refine g_aloadN X0 K (q := 4) d2_3 rfl rfl rfl ?_
          refine g_len X0 K (q := 5) e0 ((v1 H).ext Ol0.2) d2_4 rfl ?_
          refine g_icN X0 K (q := 8) d2_5 (by decide) rfl ?_
          refine g_iloadN X0 K (q := 9) d2_8 rfl rfl ?_
          refine g_aloadN X0 K (q := 10) d2_9 rfl rfl rfl ?_
          refine g_iloadN X0 K (q := 11) d2_10 rfl rfl ?_
          refine g_iald X0 K (q := 12) (v := (.int (183 : Int32))) e0 ((v1 H).ext Ol0.2) (by decide) rfl d2_11 rfl ?_
          by_cases hR3 : 183 ≤ p1.toInt ∧ p1.toInt ≤ 183
          · refine g_icN X0 K (q := 15) d2_12 (flt (own_nltI (m := 183) rfl (by omega))).1 rfl ?_
            refine g_iloadN X0 K (q := 16) d2_15 rfl rfl ?_
            refine g_aloadN X0 K (q := 17) d2_16 rfl rfl rfl ?_
            refine g_iloadN X0 K (q := 18) d2_17 rfl rfl ?_
            refine g_iconst X0 K (q := 19) (v := (1 : Int32)) d2_18 (by decide) rfl ?_
            refine g_iadd X0 K (q := 20) d2_19 (z := (5 : Int32)) (by decide) rfl ?_
            refine g_iald X0 K (q := 21) (v := (.int (183 : Int32))) e0 ((v1 H).ext Ol0.2) (by decide) rfl d2_20 rfl ?_
            refine g_icN X0 K (q := 24) d2_21 (flt (own_ngtI (m := 183) rfl (by omega))).2.2.1 rfl ?_
            refine g_iconst X0 K (q := 25) (v := (1 : Int32)) d2_24 (by decide) rfl ?_
            refine g_nret X0 K (by simp) (z' := (1 : Int32)) (by decide) d2_25 (by decide) (by decide) ?_
            exact ⟨own_some (by unfold inL; exact own_if1 (by omega)), N0, e0⟩
          · refine g_join (T := T0) (g := (mkF m 26 #[.val (.ref (ad1 Z a0)), .val (.int p1), .val (.int (4 : Int32))] [])) ?_ fun j3 => ?_
            · refine g_iinc X0 K (q := 29) (z := (6 : Int32)) (L' := #[.val (.ref (ad1 Z a0)), .val (.int p1), .val (.int (6 : Int32))]) d2_26 rfl (by decide) rfl rfl ?_
              refine g_goto X0 K (q := 2) d2_29 (by decide) (by decide) ?_
              refine g_iloadN X0 K (q := 3) d2_2 rfl rfl ?_
              refine g_aloadN X0 K (q := 4) d2_3 rfl rfl rfl ?_
              refine g_len X0 K (q := 5) e0 ((v1 H).ext Ol0.2) d2_4 rfl ?_
              refine g_icN X0 K (q := 8) d2_5 (by decide) rfl ?_
              refine g_iloadN X0 K (q := 9) d2_8 rfl rfl ?_
              refine g_aloadN X0 K (q := 10) d2_9 rfl rfl rfl ?_
              refine g_iloadN X0 K (q := 11) d2_10 rfl rfl ?_
              refine g_iald X0 K (q := 12) (v := (.int (768 : Int32))) e0 ((v1 H).ext Ol0.2) (by decide) rfl d2_11 rfl ?_
              by_cases hR4 : 768 ≤ p1.toInt ∧ p1.toInt ≤ 879
              · refine g_icN X0 K (q := 15) d2_12 (flt (own_nltI (m := 768) rfl (by omega))).1 rfl ?_
                refine g_iloadN X0 K (q := 16) d2_15 rfl rfl ?_
                refine g_aloadN X0 K (q := 17) d2_16 rfl rfl rfl ?_
                refine g_iloadN X0 K (q := 18) d2_17 rfl rfl ?_
                refine g_iconst X0 K (q := 19) (v := (1 : Int32)) d2_18 (by decide) rfl ?_
                refine g_iadd X0 K (q := 20) d2_19 (z := (7 : Int32)) (by decide) rfl ?_
                refine g_iald X0 K (q := 21) (v := (.int (879 : Int32))) e0 ((v1 H).ext Ol0.2) (by decide) rfl d2_20 rfl ?_
                refine g_icN X0 K (q := 24) d2_21 (flt (own_ngtI (m := 879) rfl (by omega))).2.2.1 rfl ?_
                refine g_iconst X0 K (q := 25) (v := (1 : Int32)) d2_24 (by decide) rfl ?_
                refine g_nret X0 K (by simp) (z' := (1 : Int32)) (by decide) d2_25 (by decide) (by decide) ?_
                exact ⟨own_some (by unfold inL; exact own_if1 (by omega)), N0, e0⟩
              · refine g_join (T := T0) (g := (mkF m 26 #[.val (.ref (ad1 Z a0)), .val (.int p1), .val (.int (6 : Int32))] [])) ?_ fun j4 => ?_
                · refine g_iinc X0 K (q := 29) (z := (8 : Int32)) (L' := #[.val (.ref (ad1 Z a0)), .val (.int p1), .val (.int (8 : Int32))]) d2_26 rfl (by decide) rfl rfl ?_
                  refine g_goto X0 K (q := 2) d2_29 (by decide) (by decide) ?_
                  refine g_iloadN X0 K (q := 3) d2_2 rfl rfl ?_
                  refine g_aloadN X0 K (q := 4) d2_3 rfl rfl rfl ?_
                  refine g_len X0 K (q := 5) e0 ((v1 H).ext Ol0.2) d2_4 rfl ?_
                  refine g_icN X0 K (q := 8) d2_5 (by decide) rfl ?_
                  refine g_iloadN X0 K (q := 9) d2_8 rfl rfl ?_
                  refine g_aloadN X0 K (q := 10) d2_9 rfl rfl rfl ?_
                  refine g_iloadN X0 K (q := 11) d2_10 rfl rfl ?_
                  refine g_iald X0 K (q := 12) (v := (.int (8255 : Int32))) e0 ((v1 H).ext Ol0.2) (by decide) rfl d2_11 rfl ?_
                  by_cases hR5 : 8255 ≤ p1.toInt ∧ p1.toInt ≤ 8256
                  · refine g_icN X0 K (q := 15) d2_12 (flt (own_nltI (m := 8255) rfl (by omega))).1 rfl ?_
                    refine g_iloadN X0 K (q := 16) d2_15 rfl rfl ?_
                    refine g_aloadN X0 K (q := 17) d2_16 rfl rfl rfl ?_
                    refine g_iloadN X0 K (q := 18) d2_17 rfl rfl ?_
                    refine g_iconst X0 K (q := 19) (v := (1 : Int32)) d2_18 (by decide) rfl ?_
                    refine g_iadd X0 K (q := 20) d2_19 (z := (9 : Int32)) (by decide) rfl ?_
                    refine g_iald X0 K (q := 21) (v := (.int (8256 : Int32))) e0 ((v1 H).ext Ol0.2) (by decide) rfl d2_20 rfl ?_
                    refine g_icN X0 K (q := 24) d2_21 (flt (own_ngtI (m := 8256) rfl (by omega))).2.2.1 rfl ?_
                    refine g_iconst X0 K (q := 25) (v := (1 : Int32)) d2_24 (by decide) rfl ?_
                    refine g_nret X0 K (by simp) (z' := (1 : Int32)) (by decide) d2_25 (by decide) (by decide) ?_
                    exact ⟨own_some (by unfold inL; exact own_if1 (by omega)), N0, e0⟩
                  · refine g_join (T := T0) (g := (mkF m 26 #[.val (.ref (ad1 Z a0)), .val (.int p1), .val (.int (8 : Int32))] [])) ?_ fun j5 => ?_
                    · refine g_iinc X0 K (q := 29) (z := (10 : Int32)) (L' := #[.val (.ref (ad1 Z a0)), .val (.int p1), .val (.int (10 : Int32))]) d2_26 rfl (by decide) rfl rfl ?_
                      refine g_goto X0 K (q := 2) d2_29 (by decide) (by decide) ?_
                      refine g_iloadN X0 K (q := 3) d2_2 rfl rfl ?_
                      refine g_aloadN X0 K (q := 4) d2_3 rfl rfl rfl ?_
                      refine g_len X0 K (q := 5) e0 ((v1 H).ext Ol0.2) d2_4 rfl ?_
                      refine g_icY X0 K (q := 32) d2_5 (by decide) (by decide) (by decide) ?_
                      refine g_iconst X0 K (q := 33) (v := (0 : Int32)) d2_32 (by decide) rfl ?_
                      refine g_nret X0 K (by simp) (z' := (0 : Int32)) (by decide) d2_33 (by decide) (by decide) ?_
                      exact ⟨own_some (by unfold inL; exact own_if0 (by omega)), N0, e0⟩
                    · by_cases hc1 : p1 < (8255 : Int32)
                      · refine g_icY X0 K (q := 26) d2_12 (tlt hc1).1 (by decide) (by decide) ?_
                        exact j5
                      · have thc1 := own_nltE (m := 8255) rfl hc1
                        refine g_icN X0 K (q := 15) d2_12 (flt hc1).1 rfl ?_
                        refine g_iloadN X0 K (q := 16) d2_15 rfl rfl ?_
                        refine g_aloadN X0 K (q := 17) d2_16 rfl rfl rfl ?_
                        refine g_iloadN X0 K (q := 18) d2_17 rfl rfl ?_
                        refine g_iconst X0 K (q := 19) (v := (1 : Int32)) d2_18 (by decide) rfl ?_
                        refine g_iadd X0 K (q := 20) d2_19 (z := (9 : Int32)) (by decide) rfl ?_
                        refine g_iald X0 K (q := 21) (v := (.int (8256 : Int32))) e0 ((v1 H).ext Ol0.2) (by decide) rfl d2_20 rfl ?_
                        refine g_icY X0 K (q := 26) d2_21 (tlt (own_gtI (m := 8256) rfl (by omega))).2.2.1 (by decide) (by decide) ?_
                        exact j5
                · by_cases hc2 : p1 < (768 : Int32)
                  · refine g_icY X0 K (q := 26) d2_12 (tlt hc2).1 (by decide) (by decide) ?_
                    exact j4
                  · have thc2 := own_nltE (m := 768) rfl hc2
                    refine g_icN X0 K (q := 15) d2_12 (flt hc2).1 rfl ?_
                    refine g_iloadN X0 K (q := 16) d2_15 rfl rfl ?_
                    refine g_aloadN X0 K (q := 17) d2_16 rfl rfl rfl ?_
                    refine g_iloadN X0 K (q := 18) d2_17 rfl rfl ?_
                    refine g_iconst X0 K (q := 19) (v := (1 : Int32)) d2_18 (by decide) rfl ?_
                    refine g_iadd X0 K (q := 20) d2_19 (z := (7 : Int32)) (by decide) rfl ?_
                    refine g_iald X0 K (q := 21) (v := (.int (879 : Int32))) e0 ((v1 H).ext Ol0.2) (by decide) rfl d2_20 rfl ?_
                    refine g_icY X0 K (q := 26) d2_21 (tlt (own_gtI (m := 879) rfl (by omega))).2.2.1 (by decide) (by decide) ?_
                    exact j4
            · by_cases hc3 : p1 < (183 : Int32)
              · refine g_icY X0 K (q := 26) d2_12 (tlt hc3).1 (by decide) (by decide) ?_
                exact j3
              · have thc3 := own_nltE (m := 183) rfl hc3
                refine g_icN X0 K (q := 15) d2_12 (flt hc3).1 rfl ?_
                refine g_iloadN X0 K (q := 16) d2_15 rfl rfl ?_
                refine g_aloadN X0 K (q := 17) d2_16 rfl rfl rfl ?_
                refine g_iloadN X0 K (q := 18) d2_17 rfl rfl ?_
                refine g_iconst X0 K (q := 19) (v := (1 : Int32)) d2_18 (by decide) rfl ?_
                refine g_iadd X0 K (q := 20) d2_19 (z := (5 : Int32)) (by decide) rfl ?_
                refine g_iald X0 K (q := 21) (v := (.int (183 : Int32))) e0 ((v1 H).ext Ol0.2) (by decide) rfl d2_20 rfl ?_
                refine g_icY X0 K (q := 26) d2_21 (tlt (own_gtI (m := 183) rfl (by omega))).2.2.1 (by decide) (by decide) ?_
                exact j3
        · by_cases hc4 : p1 < (48 : Int32)
          · refine g_icY X0 K (q := 26) d2_12 (tlt hc4).1 (by decide) (by decide) ?_
            exact j2
          · have thc4 := own_nltE (m := 48) rfl hc4
            refine g_icN X0 K (q := 15) d2_12 (flt hc4).1 rfl ?_
            refine g_iloadN X0 K (q := 16) d2_15 rfl rfl ?_
            refine g_aloadN X0 K (q := 17) d2_16 rfl rfl rfl ?_
            refine g_iloadN X0 K (q := 18) d2_17 rfl rfl ?_
            refine g_iconst X0 K (q := 19) (v := (1 : Int32)) d2_18 (by decide) rfl ?_
            refine g_iadd X0 K (q := 20) d2_19 (z := (3 : Int32)) (by decide) rfl ?_
            refine g_iald X0 K (q := 21) (v := (.int (57 : Int32))) e0 ((v1 H).ext Ol0.2) (by decide) rfl d2_20 rfl ?_
            refine g_icY X0 K (q := 26) d2_21 (tlt (own_gtI (m := 57) rfl (by omega))).2.2.1 (by decide) (by decide) ?_
            exact j2
    · by_cases hc5 : p1 < (45 : Int32)
      · refine g_icY X0 K (q := 26) d2_12 (tlt hc5).1 (by decide) (by decide) ?_
        exact j1
      · have thc5 := own_nltE (m := 45) rfl hc5
        refine g_icN X0 K (q := 15) d2_12 (flt hc5).1 rfl ?_
        refine g_iloadN X0 K (q := 16) d2_15 rfl rfl ?_
        refine g_aloadN X0 K (q := 17) d2_16 rfl rfl rfl ?_
        refine g_iloadN X0 K (q := 18) d2_17 rfl rfl ?_
        refine g_iconst X0 K (q := 19) (v := (1 : Int32)) d2_18 (by decide) rfl ?_
        refine g_iadd X0 K (q := 20) d2_19 (z := (1 : Int32)) (by decide) rfl ?_
        refine g_iald X0 K (q := 21) (v := (.int (46 : Int32))) e0 ((v1 H).ext Ol0.2) (by decide) rfl d2_20 rfl ?_
        refine g_icY X0 K (q := 26) d2_21 (tlt (own_gtI (m := 46) rfl (by omega))).2.2.1 (by decide) (by decide) ?_
        exact j1
set_option maxRecDepth 65536 in
set_option maxHeartbeats 40000000 in
theorem rm1_2 (l : Launch) {Z : State} {a0 : Array Value} (H : Hyp Z a0) (p1 : Int32) (h0 : Heap) (Ol : Old Z Z.heap.size h0) :
    Mt l Z (⟨"com/example/annotable/annotable/XmlNames", "isNameChar", "(I)Z"⟩ : MethodName) prog_49_method_3_code 1 (some .boolean) [] ({ frames := 1, cells := 0, slots := 0, locals := 14 } : Room) #[(.int p1)] h0 (fun v h L => (v = some (.int (nameB p1)) ∧ Fr Z.heap.size L ∧ h = h0)) := by
  refine g_body (plainFor_of_name pn_com_example_annotable_annotable_XmlNames) ?_
  intro p e s m below meth c T0 K X0 e0
  refine g_entry (ef_1 m p1) ?_
  have N0 : Fr Z.heap.size [] := Fr.nil _
  have Ol0 := Ol
  have Kp0 : Keep h0 h0 [] := Keep.refl h0 _
  refine g_gets X0 K (q := 3) (w15 H) e0 ((s0 H).ext Ol0.2) d1_0 rfl ?_
  intro T1 X1 e1
  refine g_iloadN X1 K (q := 4) d1_3 rfl rfl ?_
  refine g_static X1 K (q := 7) (W := 0) (w17 H) (w18 H) (w13 H) (w19 H) (by decide) (rm2_0 l H p1 h0 Ol0) e1 rfl (argsL := [(.ref (ad0 Z a0)), (.int p1)]) (rest := []) (lenOf pd_0 rfl) rfl rfl (Nat.le_of_eq rfl) d1_4 (by decide) (by decide) (by decide) (by decide) rfl ?_
  rintro T2 v2 L2 X2 ⟨rfl, N2q, e2⟩
  have N2 := Fr.app N0 N2q
  show Go p e below _ T2 (mkF m 7 #[.val (.int p1)] [(.int (inS p1))])
  rcases inS_01 p1 with hb1 | hb1
  · refine g_ifY X2 K (q := 20) d1_7 (feq (fun q => absurd (hb1.symm.trans q) (by decide))).2 (by decide) (by decide) ?_
    refine g_iconst X2 K (q := 21) (v := (1 : Int32)) d1_20 (by decide) rfl ?_
    refine g_goto X2 K (q := 25) d1_21 (by decide) (by decide) ?_
    refine g_nret X2 K (by simp) (z' := (1 : Int32)) (by decide) d1_25 (by decide) (by decide) ?_
    exact ⟨own_some (nameS p1 hb1), N2, e2⟩
  · refine g_ifN X2 K (q := 10) d1_7 (teq hb1).2 rfl ?_
    refine g_gets X2 K (q := 13) (w20 H) e2 ((s1 H).ext Ol0.2) d1_10 rfl ?_
    intro T3 X3 e3
    refine g_iloadN X3 K (q := 14) d1_13 rfl rfl ?_
    refine g_static X3 K (q := 17) (W := 0) (w17 H) (w18 H) (w13 H) (w19 H) (by decide) (rm2_1 l H p1 h0 Ol0) e3 rfl (argsL := [(.ref (ad1 Z a0)), (.int p1)]) (rest := []) (lenOf pd_0 rfl) rfl rfl (Nat.le_of_eq rfl) d1_14 (by decide) (by decide) (by decide) (by decide) rfl ?_
    rintro T4 v4 L4 X4 ⟨rfl, N4q, e4⟩
    have N4 := Fr.app N2 N4q
    show Go p e below _ T4 (mkF m 17 #[.val (.int p1)] [(.int (inL p1))])
    rcases inL_01 p1 with hb2 | hb2
    · refine g_ifN X4 K (q := 20) d1_17 (feq (fun q => absurd (hb2.symm.trans q) (by decide))).1 rfl ?_
      refine g_iconst X4 K (q := 21) (v := (1 : Int32)) d1_20 (by decide) rfl ?_
      refine g_goto X4 K (q := 25) d1_21 (by decide) (by decide) ?_
      refine g_nret X4 K (by simp) (z' := (1 : Int32)) (by decide) d1_25 (by decide) (by decide) ?_
      exact ⟨own_some (nameL p1 hb2), N4, e4⟩
    · refine g_ifY X4 K (q := 24) d1_17 (teq hb2).1 (by decide) (by decide) ?_
      refine g_iconst X4 K (q := 25) (v := (0 : Int32)) d1_24 (by decide) rfl ?_
      refine g_nret X4 K (by simp) (z' := (0 : Int32)) (by decide) d1_25 (by decide) (by decide) ?_
      exact ⟨own_some (name0 p1 hb1 hb2), N4, e4⟩
set_option maxRecDepth 65536 in
set_option maxHeartbeats 40000000 in
theorem rm3_3 (l : Launch) {Z : State} {a0 : Array Value} (H : Hyp Z a0) (p1 : Int32) (h0 : Heap) (Ol : Old Z Z.heap.size h0) :
    Mt l Z (⟨"com/example/annotable/annotable/XmlNamesIsNameCharPinLaw", "ref", "(I)Z"⟩ : MethodName) method_2_code 1 (some .boolean) [] ({ frames := 0, cells := 0, slots := 0, locals := 0 } : Room) #[(.int p1)] h0 (fun v h L => (v = some (.int (nameB p1)) ∧ Fr Z.heap.size L ∧ h = h0)) := by
  refine g_body (plainFor_of_name pn_com_example_annotable_annotable_XmlNamesIsNameCharPinLaw) ?_
  intro p e s m below meth c T0 K X0 e0
  refine g_entry (ef_1 m p1) ?_
  have N0 : Fr Z.heap.size [] := Fr.nil _
  have Ol0 := Ol
  have Kp0 : Keep h0 h0 [] := Keep.refl h0 _
  refine g_iloadN X0 K (q := 1) d3_0 rfl rfl ?_
  by_cases hc1 : p1 < (0 : Int32)
  · have ti1 := own_ltE (m := 0) rfl hc1
    refine g_ifN X0 K (q := 4) d3_1 (tlt hc1).2.1 rfl ?_
    refine g_iconst X0 K (q := 5) (v := (0 : Int32)) d3_4 (by decide) rfl ?_
    refine g_nret X0 K (by simp) (z' := (0 : Int32)) (by decide) d3_5 (by decide) (by decide) ?_
    exact ⟨own_some (by unfold nameB; exact own_if0 (by omega)), N0, e0⟩
  · have ti2 := own_nltE (m := 0) rfl hc1
    refine g_ifY X0 K (q := 6) d3_1 (flt hc1).2.1 (by decide) (by decide) ?_
    refine g_iloadN X0 K (q := 7) d3_6 rfl rfl ?_
    refine g_sipush X0 K (q := 10) (v := (128 : Int32)) d3_7 (by decide) rfl ?_
    by_cases hc2 : p1 < (128 : Int32)
    · have ti3 := own_ltE (m := 128) rfl hc2
      refine g_icN X0 K (q := 13) d3_10 (tlt hc2).2.1 rfl ?_
      refine g_iloadN X0 K (q := 14) d3_13 rfl rfl ?_
      refine g_bipush X0 K (q := 16) (v := (65 : Int32)) d3_14 (by decide) rfl ?_
      by_cases hc3 : p1 < (65 : Int32)
      · have ti4 := own_ltE (m := 65) rfl hc3
        refine g_icY X0 K (q := 25) d3_16 (tlt hc3).1 (by decide) (by decide) ?_
        refine g_iloadN X0 K (q := 26) d3_25 rfl rfl ?_
        refine g_bipush X0 K (q := 28) (v := (97 : Int32)) d3_26 (by decide) rfl ?_
        refine g_icY X0 K (q := 37) d3_28 (tlt (own_ltI (m := 97) rfl (by omega))).1 (by decide) (by decide) ?_
        refine g_iloadN X0 K (q := 38) d3_37 rfl rfl ?_
        refine g_bipush X0 K (q := 40) (v := (48 : Int32)) d3_38 (by decide) rfl ?_
        by_cases hc4 : p1 < (48 : Int32)
        · have ti5 := own_ltE (m := 48) rfl hc4
          refine g_icY X0 K (q := 49) d3_40 (tlt hc4).1 (by decide) (by decide) ?_
          refine g_iloadN X0 K (q := 50) d3_49 rfl rfl ?_
          refine g_bipush X0 K (q := 52) (v := (95 : Int32)) d3_50 (by decide) rfl ?_
          refine g_icN X0 K (q := 55) d3_52 (feq (own_neI (m := 95) rfl (by omega))).1 rfl ?_
          refine g_iloadN X0 K (q := 56) d3_55 rfl rfl ?_
          refine g_bipush X0 K (q := 58) (v := (45 : Int32)) d3_56 (by decide) rfl ?_
          by_cases hc5 : p1 = (45 : Int32)
          · have ti6 := own_eqE (m := 45) rfl hc5
            refine g_icY X0 K (q := 67) d3_58 (teq hc5).1 (by decide) (by decide) ?_
            refine g_iconst X0 K (q := 68) (v := (1 : Int32)) d3_67 (by decide) rfl ?_
            refine g_goto X0 K (q := 72) d3_68 (by decide) (by decide) ?_
            refine g_nret X0 K (by simp) (z' := (1 : Int32)) (by decide) d3_72 (by decide) (by decide) ?_
            exact ⟨own_some (by unfold nameB; exact own_if1 (by omega)), N0, e0⟩
          · have ti7 := own_neE (m := 45) rfl hc5
            refine g_icN X0 K (q := 61) d3_58 (feq hc5).1 rfl ?_
            refine g_iloadN X0 K (q := 62) d3_61 rfl rfl ?_
            refine g_bipush X0 K (q := 64) (v := (46 : Int32)) d3_62 (by decide) rfl ?_
            by_cases hc6 : p1 = (46 : Int32)
            · have ti8 := own_eqE (m := 46) rfl hc6
              refine g_icN X0 K (q := 67) d3_64 (teq hc6).2 rfl ?_
              refine g_iconst X0 K (q := 68) (v := (1 : Int32)) d3_67 (by decide) rfl ?_
              refine g_goto X0 K (q := 72) d3_68 (by decide) (by decide) ?_
              refine g_nret X0 K (by simp) (z' := (1 : Int32)) (by decide) d3_72 (by decide) (by decide) ?_
              exact ⟨own_some (by unfold nameB; exact own_if1 (by omega)), N0, e0⟩
            · have ti9 := own_neE (m := 46) rfl hc6
              refine g_icY X0 K (q := 71) d3_64 (feq hc6).2 (by decide) (by decide) ?_
              refine g_iconst X0 K (q := 72) (v := (0 : Int32)) d3_71 (by decide) rfl ?_
              refine g_nret X0 K (by simp) (z' := (0 : Int32)) (by decide) d3_72 (by decide) (by decide) ?_
              exact ⟨own_some (by unfold nameB; exact own_if0 (by omega)), N0, e0⟩
        · have ti10 := own_nltE (m := 48) rfl hc4
          refine g_icN X0 K (q := 43) d3_40 (flt hc4).1 rfl ?_
          refine g_iloadN X0 K (q := 44) d3_43 rfl rfl ?_
          refine g_bipush X0 K (q := 46) (v := (57 : Int32)) d3_44 (by decide) rfl ?_
          by_cases hc7 : (57 : Int32) < p1
          · have ti11 := own_gtE (m := 57) rfl hc7
            refine g_icN X0 K (q := 49) d3_46 (tlt hc7).2.2.2 rfl ?_
            refine g_iloadN X0 K (q := 50) d3_49 rfl rfl ?_
            refine g_bipush X0 K (q := 52) (v := (95 : Int32)) d3_50 (by decide) rfl ?_
            refine g_icN X0 K (q := 55) d3_52 (feq (own_neI (m := 95) rfl (by omega))).1 rfl ?_
            refine g_iloadN X0 K (q := 56) d3_55 rfl rfl ?_
            refine g_bipush X0 K (q := 58) (v := (45 : Int32)) d3_56 (by decide) rfl ?_
            refine g_icN X0 K (q := 61) d3_58 (feq (own_neI (m := 45) rfl (by omega))).1 rfl ?_
            refine g_iloadN X0 K (q := 62) d3_61 rfl rfl ?_
            refine g_bipush X0 K (q := 64) (v := (46 : Int32)) d3_62 (by decide) rfl ?_
            refine g_icY X0 K (q := 71) d3_64 (feq (own_neI (m := 46) rfl (by omega))).2 (by decide) (by decide) ?_
            refine g_iconst X0 K (q := 72) (v := (0 : Int32)) d3_71 (by decide) rfl ?_
            refine g_nret X0 K (by simp) (z' := (0 : Int32)) (by decide) d3_72 (by decide) (by decide) ?_
            exact ⟨own_some (by unfold nameB; exact own_if0 (by omega)), N0, e0⟩
          · have ti12 := own_ngtE (m := 57) rfl hc7
            refine g_icY X0 K (q := 67) d3_46 (flt hc7).2.2.2 (by decide) (by decide) ?_
            refine g_iconst X0 K (q := 68) (v := (1 : Int32)) d3_67 (by decide) rfl ?_
            refine g_goto X0 K (q := 72) d3_68 (by decide) (by decide) ?_
            refine g_nret X0 K (by simp) (z' := (1 : Int32)) (by decide) d3_72 (by decide) (by decide) ?_
            exact ⟨own_some (by unfold nameB; exact own_if1 (by omega)), N0, e0⟩
      · have ti13 := own_nltE (m := 65) rfl hc3
        refine g_icN X0 K (q := 19) d3_16 (flt hc3).1 rfl ?_
        refine g_iloadN X0 K (q := 20) d3_19 rfl rfl ?_
        refine g_bipush X0 K (q := 22) (v := (90 : Int32)) d3_20 (by decide) rfl ?_
        by_cases hc8 : (90 : Int32) < p1
        · have ti14 := own_gtE (m := 90) rfl hc8
          refine g_icN X0 K (q := 25) d3_22 (tlt hc8).2.2.2 rfl ?_
          refine g_iloadN X0 K (q := 26) d3_25 rfl rfl ?_
          refine g_bipush X0 K (q := 28) (v := (97 : Int32)) d3_26 (by decide) rfl ?_
          by_cases hc9 : p1 < (97 : Int32)
          · have ti15 := own_ltE (m := 97) rfl hc9
            refine g_icY X0 K (q := 37) d3_28 (tlt hc9).1 (by decide) (by decide) ?_
            refine g_iloadN X0 K (q := 38) d3_37 rfl rfl ?_
            refine g_bipush X0 K (q := 40) (v := (48 : Int32)) d3_38 (by decide) rfl ?_
            refine g_icN X0 K (q := 43) d3_40 (flt (own_nltI (m := 48) rfl (by omega))).1 rfl ?_
            refine g_iloadN X0 K (q := 44) d3_43 rfl rfl ?_
            refine g_bipush X0 K (q := 46) (v := (57 : Int32)) d3_44 (by decide) rfl ?_
            refine g_icN X0 K (q := 49) d3_46 (tlt (own_gtI (m := 57) rfl (by omega))).2.2.2 rfl ?_
            refine g_iloadN X0 K (q := 50) d3_49 rfl rfl ?_
            refine g_bipush X0 K (q := 52) (v := (95 : Int32)) d3_50 (by decide) rfl ?_
            by_cases hc10 : p1 = (95 : Int32)
            · have ti16 := own_eqE (m := 95) rfl hc10
              refine g_icY X0 K (q := 67) d3_52 (teq hc10).1 (by decide) (by decide) ?_
              refine g_iconst X0 K (q := 68) (v := (1 : Int32)) d3_67 (by decide) rfl ?_
              refine g_goto X0 K (q := 72) d3_68 (by decide) (by decide) ?_
              refine g_nret X0 K (by simp) (z' := (1 : Int32)) (by decide) d3_72 (by decide) (by decide) ?_
              exact ⟨own_some (by unfold nameB; exact own_if1 (by omega)), N0, e0⟩
            · have ti17 := own_neE (m := 95) rfl hc10
              refine g_icN X0 K (q := 55) d3_52 (feq hc10).1 rfl ?_
              refine g_iloadN X0 K (q := 56) d3_55 rfl rfl ?_
              refine g_bipush X0 K (q := 58) (v := (45 : Int32)) d3_56 (by decide) rfl ?_
              refine g_icN X0 K (q := 61) d3_58 (feq (own_neI (m := 45) rfl (by omega))).1 rfl ?_
              refine g_iloadN X0 K (q := 62) d3_61 rfl rfl ?_
              refine g_bipush X0 K (q := 64) (v := (46 : Int32)) d3_62 (by decide) rfl ?_
              refine g_icY X0 K (q := 71) d3_64 (feq (own_neI (m := 46) rfl (by omega))).2 (by decide) (by decide) ?_
              refine g_iconst X0 K (q := 72) (v := (0 : Int32)) d3_71 (by decide) rfl ?_
              refine g_nret X0 K (by simp) (z' := (0 : Int32)) (by decide) d3_72 (by decide) (by decide) ?_
              exact ⟨own_some (by unfold nameB; exact own_if0 (by omega)), N0, e0⟩
          · have ti18 := own_nltE (m := 97) rfl hc9
            refine g_icN X0 K (q := 31) d3_28 (flt hc9).1 rfl ?_
            refine g_iloadN X0 K (q := 32) d3_31 rfl rfl ?_
            refine g_bipush X0 K (q := 34) (v := (122 : Int32)) d3_32 (by decide) rfl ?_
            by_cases hc11 : (122 : Int32) < p1
            · have ti19 := own_gtE (m := 122) rfl hc11
              refine g_icN X0 K (q := 37) d3_34 (tlt hc11).2.2.2 rfl ?_
              refine g_iloadN X0 K (q := 38) d3_37 rfl rfl ?_
              refine g_bipush X0 K (q := 40) (v := (48 : Int32)) d3_38 (by decide) rfl ?_
              refine g_icN X0 K (q := 43) d3_40 (flt (own_nltI (m := 48) rfl (by omega))).1 rfl ?_
              refine g_iloadN X0 K (q := 44) d3_43 rfl rfl ?_
              refine g_bipush X0 K (q := 46) (v := (57 : Int32)) d3_44 (by decide) rfl ?_
              refine g_icN X0 K (q := 49) d3_46 (tlt (own_gtI (m := 57) rfl (by omega))).2.2.2 rfl ?_
              refine g_iloadN X0 K (q := 50) d3_49 rfl rfl ?_
              refine g_bipush X0 K (q := 52) (v := (95 : Int32)) d3_50 (by decide) rfl ?_
              refine g_icN X0 K (q := 55) d3_52 (feq (own_neI (m := 95) rfl (by omega))).1 rfl ?_
              refine g_iloadN X0 K (q := 56) d3_55 rfl rfl ?_
              refine g_bipush X0 K (q := 58) (v := (45 : Int32)) d3_56 (by decide) rfl ?_
              refine g_icN X0 K (q := 61) d3_58 (feq (own_neI (m := 45) rfl (by omega))).1 rfl ?_
              refine g_iloadN X0 K (q := 62) d3_61 rfl rfl ?_
              refine g_bipush X0 K (q := 64) (v := (46 : Int32)) d3_62 (by decide) rfl ?_
              refine g_icY X0 K (q := 71) d3_64 (feq (own_neI (m := 46) rfl (by omega))).2 (by decide) (by decide) ?_
              refine g_iconst X0 K (q := 72) (v := (0 : Int32)) d3_71 (by decide) rfl ?_
              refine g_nret X0 K (by simp) (z' := (0 : Int32)) (by decide) d3_72 (by decide) (by decide) ?_
              exact ⟨own_some (by unfold nameB; exact own_if0 (by omega)), N0, e0⟩
            · have ti20 := own_ngtE (m := 122) rfl hc11
              refine g_icY X0 K (q := 67) d3_34 (flt hc11).2.2.2 (by decide) (by decide) ?_
              refine g_iconst X0 K (q := 68) (v := (1 : Int32)) d3_67 (by decide) rfl ?_
              refine g_goto X0 K (q := 72) d3_68 (by decide) (by decide) ?_
              refine g_nret X0 K (by simp) (z' := (1 : Int32)) (by decide) d3_72 (by decide) (by decide) ?_
              exact ⟨own_some (by unfold nameB; exact own_if1 (by omega)), N0, e0⟩
        · have ti21 := own_ngtE (m := 90) rfl hc8
          refine g_icY X0 K (q := 67) d3_22 (flt hc8).2.2.2 (by decide) (by decide) ?_
          refine g_iconst X0 K (q := 68) (v := (1 : Int32)) d3_67 (by decide) rfl ?_
          refine g_goto X0 K (q := 72) d3_68 (by decide) (by decide) ?_
          refine g_nret X0 K (by simp) (z' := (1 : Int32)) (by decide) d3_72 (by decide) (by decide) ?_
          exact ⟨own_some (by unfold nameB; exact own_if1 (by omega)), N0, e0⟩
    · have ti22 := own_nltE (m := 128) rfl hc2
      refine g_icY X0 K (q := 73) d3_10 (flt hc2).2.1 (by decide) (by decide) ?_
      refine g_iloadN X0 K (q := 74) d3_73 rfl rfl ?_
      refine g_sipush X0 K (q := 77) (v := (8192 : Int32)) d3_74 (by decide) rfl ?_
      by_cases hc12 : p1 < (8192 : Int32)
      · have ti23 := own_ltE (m := 8192) rfl hc12
        refine g_icN X0 K (q := 80) d3_77 (tlt hc12).2.1 rfl ?_
        refine g_iloadN X0 K (q := 81) d3_80 rfl rfl ?_
        refine g_sipush X0 K (q := 84) (v := (183 : Int32)) d3_81 (by decide) rfl ?_
        by_cases hc13 : p1 = (183 : Int32)
        · have ti24 := own_eqE (m := 183) rfl hc13
          refine g_icY X0 K (q := 115) d3_84 (teq hc13).1 (by decide) (by decide) ?_
          refine g_iconst X0 K (q := 116) (v := (1 : Int32)) d3_115 (by decide) rfl ?_
          refine g_goto X0 K (q := 120) d3_116 (by decide) (by decide) ?_
          refine g_nret X0 K (by simp) (z' := (1 : Int32)) (by decide) d3_120 (by decide) (by decide) ?_
          exact ⟨own_some (by unfold nameB; exact own_if1 (by omega)), N0, e0⟩
        · have ti25 := own_neE (m := 183) rfl hc13
          refine g_icN X0 K (q := 87) d3_84 (feq hc13).1 rfl ?_
          refine g_iloadN X0 K (q := 88) d3_87 rfl rfl ?_
          refine g_sipush X0 K (q := 91) (v := (192 : Int32)) d3_88 (by decide) rfl ?_
          by_cases hc14 : p1 < (192 : Int32)
          · have ti26 := own_ltE (m := 192) rfl hc14
            refine g_icY X0 K (q := 119) d3_91 (tlt hc14).1 (by decide) (by decide) ?_
            refine g_iconst X0 K (q := 120) (v := (0 : Int32)) d3_119 (by decide) rfl ?_
            refine g_nret X0 K (by simp) (z' := (0 : Int32)) (by decide) d3_120 (by decide) (by decide) ?_
            exact ⟨own_some (by unfold nameB; exact own_if0 (by omega)), N0, e0⟩
          · have ti27 := own_nltE (m := 192) rfl hc14
            refine g_icN X0 K (q := 94) d3_91 (flt hc14).1 rfl ?_
            refine g_iloadN X0 K (q := 95) d3_94 rfl rfl ?_
            refine g_sipush X0 K (q := 98) (v := (215 : Int32)) d3_95 (by decide) rfl ?_
            by_cases hc15 : p1 = (215 : Int32)
            · have ti28 := own_eqE (m := 215) rfl hc15
              refine g_icY X0 K (q := 119) d3_98 (teq hc15).1 (by decide) (by decide) ?_
              refine g_iconst X0 K (q := 120) (v := (0 : Int32)) d3_119 (by decide) rfl ?_
              refine g_nret X0 K (by simp) (z' := (0 : Int32)) (by decide) d3_120 (by decide) (by decide) ?_
              exact ⟨own_some (by unfold nameB; exact own_if0 (by omega)), N0, e0⟩
            · have ti29 := own_neE (m := 215) rfl hc15
              refine g_icN X0 K (q := 101) d3_98 (feq hc15).1 rfl ?_
              refine g_iloadN X0 K (q := 102) d3_101 rfl rfl ?_
              refine g_sipush X0 K (q := 105) (v := (247 : Int32)) d3_102 (by decide) rfl ?_
              by_cases hc16 : p1 = (247 : Int32)
              · have ti30 := own_eqE (m := 247) rfl hc16
                refine g_icY X0 K (q := 119) d3_105 (teq hc16).1 (by decide) (by decide) ?_
                refine g_iconst X0 K (q := 120) (v := (0 : Int32)) d3_119 (by decide) rfl ?_
                refine g_nret X0 K (by simp) (z' := (0 : Int32)) (by decide) d3_120 (by decide) (by decide) ?_
                exact ⟨own_some (by unfold nameB; exact own_if0 (by omega)), N0, e0⟩
              · have ti31 := own_neE (m := 247) rfl hc16
                refine g_icN X0 K (q := 108) d3_105 (feq hc16).1 rfl ?_
                refine g_iloadN X0 K (q := 109) d3_108 rfl rfl ?_
                refine g_sipush X0 K (q := 112) (v := (894 : Int32)) d3_109 (by decide) rfl ?_
                by_cases hc17 : p1 = (894 : Int32)
                · have ti32 := own_eqE (m := 894) rfl hc17
                  refine g_icY X0 K (q := 119) d3_112 (teq hc17).1 (by decide) (by decide) ?_
                  refine g_iconst X0 K (q := 120) (v := (0 : Int32)) d3_119 (by decide) rfl ?_
                  refine g_nret X0 K (by simp) (z' := (0 : Int32)) (by decide) d3_120 (by decide) (by decide) ?_
                  exact ⟨own_some (by unfold nameB; exact own_if0 (by omega)), N0, e0⟩
                · have ti33 := own_neE (m := 894) rfl hc17
                  refine g_icN X0 K (q := 115) d3_112 (feq hc17).1 rfl ?_
                  refine g_iconst X0 K (q := 116) (v := (1 : Int32)) d3_115 (by decide) rfl ?_
                  refine g_goto X0 K (q := 120) d3_116 (by decide) (by decide) ?_
                  refine g_nret X0 K (by simp) (z' := (1 : Int32)) (by decide) d3_120 (by decide) (by decide) ?_
                  exact ⟨own_some (by unfold nameB; exact own_if1 (by omega)), N0, e0⟩
      · have ti34 := own_nltE (m := 8192) rfl hc12
        refine g_icY X0 K (q := 121) d3_77 (flt hc12).2.1 (by decide) (by decide) ?_
        refine g_iloadN X0 K (q := 122) d3_121 rfl rfl ?_
        refine g_sipush X0 K (q := 125) (v := (12288 : Int32)) d3_122 (by decide) rfl ?_
        by_cases hc18 : p1 < (12288 : Int32)
        · have ti35 := own_ltE (m := 12288) rfl hc18
          refine g_icN X0 K (q := 128) d3_125 (tlt hc18).2.1 rfl ?_
          refine g_iloadN X0 K (q := 129) d3_128 rfl rfl ?_
          refine g_sipush X0 K (q := 132) (v := (8204 : Int32)) d3_129 (by decide) rfl ?_
          by_cases hc19 : p1 = (8204 : Int32)
          · have ti36 := own_eqE (m := 8204) rfl hc19
            refine g_icY X0 K (q := 184) d3_132 (teq hc19).1 (by decide) (by decide) ?_
            refine g_iconst X0 K (q := 185) (v := (1 : Int32)) d3_184 (by decide) rfl ?_
            refine g_goto X0 K (q := 189) d3_185 (by decide) (by decide) ?_
            refine g_nret X0 K (by simp) (z' := (1 : Int32)) (by decide) d3_189 (by decide) (by decide) ?_
            exact ⟨own_some (by unfold nameB; exact own_if1 (by omega)), N0, e0⟩
          · have ti37 := own_neE (m := 8204) rfl hc19
            refine g_icN X0 K (q := 135) d3_132 (feq hc19).1 rfl ?_
            refine g_iloadN X0 K (q := 136) d3_135 rfl rfl ?_
            refine g_sipush X0 K (q := 139) (v := (8205 : Int32)) d3_136 (by decide) rfl ?_
            by_cases hc20 : p1 = (8205 : Int32)
            · have ti38 := own_eqE (m := 8205) rfl hc20
              refine g_icY X0 K (q := 184) d3_139 (teq hc20).1 (by decide) (by decide) ?_
              refine g_iconst X0 K (q := 185) (v := (1 : Int32)) d3_184 (by decide) rfl ?_
              refine g_goto X0 K (q := 189) d3_185 (by decide) (by decide) ?_
              refine g_nret X0 K (by simp) (z' := (1 : Int32)) (by decide) d3_189 (by decide) (by decide) ?_
              exact ⟨own_some (by unfold nameB; exact own_if1 (by omega)), N0, e0⟩
            · have ti39 := own_neE (m := 8205) rfl hc20
              refine g_icN X0 K (q := 142) d3_139 (feq hc20).1 rfl ?_
              refine g_iloadN X0 K (q := 143) d3_142 rfl rfl ?_
              refine g_sipush X0 K (q := 146) (v := (8255 : Int32)) d3_143 (by decide) rfl ?_
              by_cases hc21 : p1 = (8255 : Int32)
              · have ti40 := own_eqE (m := 8255) rfl hc21
                refine g_icY X0 K (q := 184) d3_146 (teq hc21).1 (by decide) (by decide) ?_
                refine g_iconst X0 K (q := 185) (v := (1 : Int32)) d3_184 (by decide) rfl ?_
                refine g_goto X0 K (q := 189) d3_185 (by decide) (by decide) ?_
                refine g_nret X0 K (by simp) (z' := (1 : Int32)) (by decide) d3_189 (by decide) (by decide) ?_
                exact ⟨own_some (by unfold nameB; exact own_if1 (by omega)), N0, e0⟩
              · have ti41 := own_neE (m := 8255) rfl hc21
                refine g_icN X0 K (q := 149) d3_146 (feq hc21).1 rfl ?_
                refine g_iloadN X0 K (q := 150) d3_149 rfl rfl ?_
                refine g_sipush X0 K (q := 153) (v := (8256 : Int32)) d3_150 (by decide) rfl ?_
                by_cases hc22 : p1 = (8256 : Int32)
                · have ti42 := own_eqE (m := 8256) rfl hc22
                  refine g_icY X0 K (q := 184) d3_153 (teq hc22).1 (by decide) (by decide) ?_
                  refine g_iconst X0 K (q := 185) (v := (1 : Int32)) d3_184 (by decide) rfl ?_
                  refine g_goto X0 K (q := 189) d3_185 (by decide) (by decide) ?_
                  refine g_nret X0 K (by simp) (z' := (1 : Int32)) (by decide) d3_189 (by decide) (by decide) ?_
                  exact ⟨own_some (by unfold nameB; exact own_if1 (by omega)), N0, e0⟩
                · have ti43 := own_neE (m := 8256) rfl hc22
                  refine g_icN X0 K (q := 156) d3_153 (feq hc22).1 rfl ?_
                  refine g_iloadN X0 K (q := 157) d3_156 rfl rfl ?_
                  refine g_sipush X0 K (q := 160) (v := (8304 : Int32)) d3_157 (by decide) rfl ?_
                  by_cases hc23 : p1 < (8304 : Int32)
                  · have ti44 := own_ltE (m := 8304) rfl hc23
                    refine g_icY X0 K (q := 170) d3_160 (tlt hc23).1 (by decide) (by decide) ?_
                    refine g_iloadN X0 K (q := 171) d3_170 rfl rfl ?_
                    refine g_sipush X0 K (q := 174) (v := (11264 : Int32)) d3_171 (by decide) rfl ?_
                    refine g_icY X0 K (q := 188) d3_174 (tlt (own_ltI (m := 11264) rfl (by omega))).1 (by decide) (by decide) ?_
                    refine g_iconst X0 K (q := 189) (v := (0 : Int32)) d3_188 (by decide) rfl ?_
                    refine g_nret X0 K (by simp) (z' := (0 : Int32)) (by decide) d3_189 (by decide) (by decide) ?_
                    exact ⟨own_some (by unfold nameB; exact own_if0 (by omega)), N0, e0⟩
                  · have ti45 := own_nltE (m := 8304) rfl hc23
                    refine g_icN X0 K (q := 163) d3_160 (flt hc23).1 rfl ?_
                    refine g_iloadN X0 K (q := 164) d3_163 rfl rfl ?_
                    refine g_sipush X0 K (q := 167) (v := (8591 : Int32)) d3_164 (by decide) rfl ?_
                    by_cases hc24 : (8591 : Int32) < p1
                    · have ti46 := own_gtE (m := 8591) rfl hc24
                      refine g_icN X0 K (q := 170) d3_167 (tlt hc24).2.2.2 rfl ?_
                      refine g_iloadN X0 K (q := 171) d3_170 rfl rfl ?_
                      refine g_sipush X0 K (q := 174) (v := (11264 : Int32)) d3_171 (by decide) rfl ?_
                      by_cases hc25 : p1 < (11264 : Int32)
                      · have ti47 := own_ltE (m := 11264) rfl hc25
                        refine g_icY X0 K (q := 188) d3_174 (tlt hc25).1 (by decide) (by decide) ?_
                        refine g_iconst X0 K (q := 189) (v := (0 : Int32)) d3_188 (by decide) rfl ?_
                        refine g_nret X0 K (by simp) (z' := (0 : Int32)) (by decide) d3_189 (by decide) (by decide) ?_
                        exact ⟨own_some (by unfold nameB; exact own_if0 (by omega)), N0, e0⟩
                      · have ti48 := own_nltE (m := 11264) rfl hc25
                        refine g_icN X0 K (q := 177) d3_174 (flt hc25).1 rfl ?_
                        refine g_iloadN X0 K (q := 178) d3_177 rfl rfl ?_
                        refine g_sipush X0 K (q := 181) (v := (12271 : Int32)) d3_178 (by decide) rfl ?_
                        by_cases hc26 : (12271 : Int32) < p1
                        · have ti49 := own_gtE (m := 12271) rfl hc26
                          refine g_icY X0 K (q := 188) d3_181 (tlt hc26).2.2.1 (by decide) (by decide) ?_
                          refine g_iconst X0 K (q := 189) (v := (0 : Int32)) d3_188 (by decide) rfl ?_
                          refine g_nret X0 K (by simp) (z' := (0 : Int32)) (by decide) d3_189 (by decide) (by decide) ?_
                          exact ⟨own_some (by unfold nameB; exact own_if0 (by omega)), N0, e0⟩
                        · have ti50 := own_ngtE (m := 12271) rfl hc26
                          refine g_icN X0 K (q := 184) d3_181 (flt hc26).2.2.1 rfl ?_
                          refine g_iconst X0 K (q := 185) (v := (1 : Int32)) d3_184 (by decide) rfl ?_
                          refine g_goto X0 K (q := 189) d3_185 (by decide) (by decide) ?_
                          refine g_nret X0 K (by simp) (z' := (1 : Int32)) (by decide) d3_189 (by decide) (by decide) ?_
                          exact ⟨own_some (by unfold nameB; exact own_if1 (by omega)), N0, e0⟩
                    · have ti51 := own_ngtE (m := 8591) rfl hc24
                      refine g_icY X0 K (q := 184) d3_167 (flt hc24).2.2.2 (by decide) (by decide) ?_
                      refine g_iconst X0 K (q := 185) (v := (1 : Int32)) d3_184 (by decide) rfl ?_
                      refine g_goto X0 K (q := 189) d3_185 (by decide) (by decide) ?_
                      refine g_nret X0 K (by simp) (z' := (1 : Int32)) (by decide) d3_189 (by decide) (by decide) ?_
                      exact ⟨own_some (by unfold nameB; exact own_if1 (by omega)), N0, e0⟩
        · have ti52 := own_nltE (m := 12288) rfl hc18
          refine g_icY X0 K (q := 190) d3_125 (flt hc18).2.1 (by decide) (by decide) ?_
          refine g_iloadN X0 K (q := 191) d3_190 rfl rfl ?_
          refine g_ldc X0 K (q := 193) (w6 H) d3_191 rfl ?_
          by_cases hc27 : p1 < (65536 : Int32)
          · have ti53 := own_ltE (m := 65536) rfl hc27
            refine g_icN X0 K (q := 196) d3_193 (tlt hc27).2.1 rfl ?_
            refine g_iloadN X0 K (q := 197) d3_196 rfl rfl ?_
            refine g_sipush X0 K (q := 200) (v := (12289 : Int32)) d3_197 (by decide) rfl ?_
            by_cases hc28 : p1 < (12289 : Int32)
            · have ti54 := own_ltE (m := 12289) rfl hc28
              refine g_icY X0 K (q := 209) d3_200 (tlt hc28).1 (by decide) (by decide) ?_
              refine g_iloadN X0 K (q := 210) d3_209 rfl rfl ?_
              refine g_ldc X0 K (q := 212) (w2 H) d3_210 rfl ?_
              refine g_icY X0 K (q := 221) d3_212 (tlt (own_ltI (m := 63744) rfl (by omega))).1 (by decide) (by decide) ?_
              refine g_iloadN X0 K (q := 222) d3_221 rfl rfl ?_
              refine g_ldc X0 K (q := 224) (w4 H) d3_222 rfl ?_
              refine g_icY X0 K (q := 237) d3_224 (tlt (own_ltI (m := 65008) rfl (by omega))).1 (by decide) (by decide) ?_
              refine g_iconst X0 K (q := 238) (v := (0 : Int32)) d3_237 (by decide) rfl ?_
              refine g_nret X0 K (by simp) (z' := (0 : Int32)) (by decide) d3_238 (by decide) (by decide) ?_
              exact ⟨own_some (by unfold nameB; exact own_if0 (by omega)), N0, e0⟩
            · have ti55 := own_nltE (m := 12289) rfl hc28
              refine g_icN X0 K (q := 203) d3_200 (flt hc28).1 rfl ?_
              refine g_iloadN X0 K (q := 204) d3_203 rfl rfl ?_
              refine g_ldc X0 K (q := 206) (w1 H) d3_204 rfl ?_
              by_cases hc29 : (55295 : Int32) < p1
              · have ti56 := own_gtE (m := 55295) rfl hc29
                refine g_icN X0 K (q := 209) d3_206 (tlt hc29).2.2.2 rfl ?_
                refine g_iloadN X0 K (q := 210) d3_209 rfl rfl ?_
                refine g_ldc X0 K (q := 212) (w2 H) d3_210 rfl ?_
                by_cases hc30 : p1 < (63744 : Int32)
                · have ti57 := own_ltE (m := 63744) rfl hc30
                  refine g_icY X0 K (q := 221) d3_212 (tlt hc30).1 (by decide) (by decide) ?_
                  refine g_iloadN X0 K (q := 222) d3_221 rfl rfl ?_
                  refine g_ldc X0 K (q := 224) (w4 H) d3_222 rfl ?_
                  refine g_icY X0 K (q := 237) d3_224 (tlt (own_ltI (m := 65008) rfl (by omega))).1 (by decide) (by decide) ?_
                  refine g_iconst X0 K (q := 238) (v := (0 : Int32)) d3_237 (by decide) rfl ?_
                  refine g_nret X0 K (by simp) (z' := (0 : Int32)) (by decide) d3_238 (by decide) (by decide) ?_
                  exact ⟨own_some (by unfold nameB; exact own_if0 (by omega)), N0, e0⟩
                · have ti58 := own_nltE (m := 63744) rfl hc30
                  refine g_icN X0 K (q := 215) d3_212 (flt hc30).1 rfl ?_
                  refine g_iloadN X0 K (q := 216) d3_215 rfl rfl ?_
                  refine g_ldc X0 K (q := 218) (w3 H) d3_216 rfl ?_
                  by_cases hc31 : (64975 : Int32) < p1
                  · have ti59 := own_gtE (m := 64975) rfl hc31
                    refine g_icN X0 K (q := 221) d3_218 (tlt hc31).2.2.2 rfl ?_
                    refine g_iloadN X0 K (q := 222) d3_221 rfl rfl ?_
                    refine g_ldc X0 K (q := 224) (w4 H) d3_222 rfl ?_
                    by_cases hc32 : p1 < (65008 : Int32)
                    · have ti60 := own_ltE (m := 65008) rfl hc32
                      refine g_icY X0 K (q := 237) d3_224 (tlt hc32).1 (by decide) (by decide) ?_
                      refine g_iconst X0 K (q := 238) (v := (0 : Int32)) d3_237 (by decide) rfl ?_
                      refine g_nret X0 K (by simp) (z' := (0 : Int32)) (by decide) d3_238 (by decide) (by decide) ?_
                      exact ⟨own_some (by unfold nameB; exact own_if0 (by omega)), N0, e0⟩
                    · have ti61 := own_nltE (m := 65008) rfl hc32
                      refine g_icN X0 K (q := 227) d3_224 (flt hc32).1 rfl ?_
                      refine g_iloadN X0 K (q := 228) d3_227 rfl rfl ?_
                      refine g_ldc X0 K (q := 230) (w5 H) d3_228 rfl ?_
                      by_cases hc33 : (65533 : Int32) < p1
                      · have ti62 := own_gtE (m := 65533) rfl hc33
                        refine g_icY X0 K (q := 237) d3_230 (tlt hc33).2.2.1 (by decide) (by decide) ?_
                        refine g_iconst X0 K (q := 238) (v := (0 : Int32)) d3_237 (by decide) rfl ?_
                        refine g_nret X0 K (by simp) (z' := (0 : Int32)) (by decide) d3_238 (by decide) (by decide) ?_
                        exact ⟨own_some (by unfold nameB; exact own_if0 (by omega)), N0, e0⟩
                      · have ti63 := own_ngtE (m := 65533) rfl hc33
                        refine g_icN X0 K (q := 233) d3_230 (flt hc33).2.2.1 rfl ?_
                        refine g_iconst X0 K (q := 234) (v := (1 : Int32)) d3_233 (by decide) rfl ?_
                        refine g_goto X0 K (q := 238) d3_234 (by decide) (by decide) ?_
                        refine g_nret X0 K (by simp) (z' := (1 : Int32)) (by decide) d3_238 (by decide) (by decide) ?_
                        exact ⟨own_some (by unfold nameB; exact own_if1 (by omega)), N0, e0⟩
                  · have ti64 := own_ngtE (m := 64975) rfl hc31
                    refine g_icY X0 K (q := 233) d3_218 (flt hc31).2.2.2 (by decide) (by decide) ?_
                    refine g_iconst X0 K (q := 234) (v := (1 : Int32)) d3_233 (by decide) rfl ?_
                    refine g_goto X0 K (q := 238) d3_234 (by decide) (by decide) ?_
                    refine g_nret X0 K (by simp) (z' := (1 : Int32)) (by decide) d3_238 (by decide) (by decide) ?_
                    exact ⟨own_some (by unfold nameB; exact own_if1 (by omega)), N0, e0⟩
              · have ti65 := own_ngtE (m := 55295) rfl hc29
                refine g_icY X0 K (q := 233) d3_206 (flt hc29).2.2.2 (by decide) (by decide) ?_
                refine g_iconst X0 K (q := 234) (v := (1 : Int32)) d3_233 (by decide) rfl ?_
                refine g_goto X0 K (q := 238) d3_234 (by decide) (by decide) ?_
                refine g_nret X0 K (by simp) (z' := (1 : Int32)) (by decide) d3_238 (by decide) (by decide) ?_
                exact ⟨own_some (by unfold nameB; exact own_if1 (by omega)), N0, e0⟩
          · have ti66 := own_nltE (m := 65536) rfl hc27
            refine g_icY X0 K (q := 239) d3_193 (flt hc27).2.1 (by decide) (by decide) ?_
            refine g_iloadN X0 K (q := 240) d3_239 rfl rfl ?_
            refine g_ldc X0 K (q := 242) (w7 H) d3_240 rfl ?_
            by_cases hc34 : (983039 : Int32) < p1
            · have ti67 := own_gtE (m := 983039) rfl hc34
              refine g_icY X0 K (q := 249) d3_242 (tlt hc34).2.2.1 (by decide) (by decide) ?_
              refine g_iconst X0 K (q := 250) (v := (0 : Int32)) d3_249 (by decide) rfl ?_
              refine g_nret X0 K (by simp) (z' := (0 : Int32)) (by decide) d3_250 (by decide) (by decide) ?_
              exact ⟨own_some (by unfold nameB; exact own_if0 (by omega)), N0, e0⟩
            · have ti68 := own_ngtE (m := 983039) rfl hc34
              refine g_icN X0 K (q := 245) d3_242 (flt hc34).2.2.1 rfl ?_
              refine g_iconst X0 K (q := 246) (v := (1 : Int32)) d3_245 (by decide) rfl ?_
              refine g_goto X0 K (q := 250) d3_246 (by decide) (by decide) ?_
              refine g_nret X0 K (by simp) (z' := (1 : Int32)) (by decide) d3_250 (by decide) (by decide) ?_
              exact ⟨own_some (by unfold nameB; exact own_if1 (by omega)), N0, e0⟩
set_option maxRecDepth 65536 in
set_option maxHeartbeats 40000000 in
theorem rm0 (l : Launch) {Z : State} {a0 : Array Value} (H : Hyp Z a0) (p0 : Int32) (p1 : Int32) (p2 : Int32) (p3 : Int32) (h0 : Heap) (Ol : Old Z Z.heap.size h0) :
    Mt l Z x code maxLocals ret tables_1 room_1 #[(.int p0), (.int p1), (.int p2), (.int p3)] h0 (fun v h L => v = some (.int 1) ∧ Fr Z.heap.size L) := by
  refine g_body (bytes := code) (maxL := maxLocals) (ret := some .boolean) (plainFor_of_name pn_com_example_annotable_annotable_XmlNamesIsNameCharPinLaw) ?_
  intro p e s m below meth c T0 K X0 e0
  refine g_entry (ef_2 m p0 p1 p2 p3) ?_
  have N0 : Fr Z.heap.size [] := Fr.nil _
  have Ol0 : Old Z Z.heap.size h0 := Ol
  refine g_bipush X0 K (q := 2) (v := (41 : Int32)) at_0 (by decide) rfl ?_
  refine g_newp X0 K (q := 4) (cap := 41) (ty := .int) (vs := [(.int (0 : Int32)), (.int (0 : Int32)), (.int (0 : Int32)), (.int (0 : Int32)), (.int (0 : Int32)), (.int (0 : Int32)), (.int (0 : Int32)), (.int (0 : Int32)), (.int (0 : Int32)), (.int (0 : Int32)), (.int (0 : Int32)), (.int (0 : Int32)), (.int (0 : Int32)), (.int (0 : Int32)), (.int (0 : Int32)), (.int (0 : Int32)), (.int (0 : Int32)), (.int (0 : Int32)), (.int (0 : Int32)), (.int (0 : Int32)), (.int (0 : Int32)), (.int (0 : Int32)), (.int (0 : Int32)), (.int (0 : Int32)), (.int (0 : Int32)), (.int (0 : Int32)), (.int (0 : Int32)), (.int (0 : Int32)), (.int (0 : Int32)), (.int (0 : Int32)), (.int (0 : Int32)), (.int (0 : Int32)), (.int (0 : Int32)), (.int (0 : Int32)), (.int (0 : Int32)), (.int (0 : Int32)), (.int (0 : Int32)), (.int (0 : Int32)), (.int (0 : Int32)), (.int (0 : Int32)), (.int (0 : Int32))]) (w0 H) rfl e0 at_2 (by decide) (by decide) rfl (by decide) (by decide) (by decide) rfl ?_
  intro T1 h1 b1 kA1 X1 e1 E1 z1 A1
  have ge1 : Z.heap.size ≤ b1 := Nat.le_trans Ol0.2.1 (Nat.le_of_eq z1)
  have Ol1 := Ol0.ext E1
  refine g_dup X1 K (q := 5) at_4 rfl rfl ?_
  refine g_iconst X1 K (q := 6) (v := (0 : Int32)) at_5 (by decide) rfl ?_
  refine g_iconst X1 K (q := 7) (v := (0 : Int32)) at_6 (by decide) rfl ?_
  refine g_iast X1 K (q := 8) (vs' := [(.int (0 : Int32)), (.int (0 : Int32)), (.int (0 : Int32)), (.int (0 : Int32)), (.int (0 : Int32)), (.int (0 : Int32)), (.int (0 : Int32)), (.int (0 : Int32)), (.int (0 : Int32)), (.int (0 : Int32)), (.int (0 : Int32)), (.int (0 : Int32)), (.int (0 : Int32)), (.int (0 : Int32)), (.int (0 : Int32)), (.int (0 : Int32)), (.int (0 : Int32)), (.int (0 : Int32)), (.int (0 : Int32)), (.int (0 : Int32)), (.int (0 : Int32)), (.int (0 : Int32)), (.int (0 : Int32)), (.int (0 : Int32)), (.int (0 : Int32)), (.int (0 : Int32)), (.int (0 : Int32)), (.int (0 : Int32)), (.int (0 : Int32)), (.int (0 : Int32)), (.int (0 : Int32)), (.int (0 : Int32)), (.int (0 : Int32)), (.int (0 : Int32)), (.int (0 : Int32)), (.int (0 : Int32)), (.int (0 : Int32)), (.int (0 : Int32)), (.int (0 : Int32)), (.int (0 : Int32)), (.int (0 : Int32))]) e1 A1 (by decide) (Nat.le_of_ble_eq_true rfl) rfl at_7 rfl ?_
  intro T2 h2 X2 e2 W2 F2
  have N2 := Fr.snoc X2 N0 ge1
  have Ol2 := Ol1.wr W2 ge1
  refine g_dup X2 K (q := 9) at_8 rfl rfl ?_
  refine g_iconst X2 K (q := 10) (v := (1 : Int32)) at_9 (by decide) rfl ?_
  refine g_bipush X2 K (q := 12) (v := (58 : Int32)) at_10 (by decide) rfl ?_
  refine g_iast X2 K (q := 13) (vs' := [(.int (0 : Int32)), (.int (58 : Int32)), (.int (0 : Int32)), (.int (0 : Int32)), (.int (0 : Int32)), (.int (0 : Int32)), (.int (0 : Int32)), (.int (0 : Int32)), (.int (0 : Int32)), (.int (0 : Int32)), (.int (0 : Int32)), (.int (0 : Int32)), (.int (0 : Int32)), (.int (0 : Int32)), (.int (0 : Int32)), (.int (0 : Int32)), (.int (0 : Int32)), (.int (0 : Int32)), (.int (0 : Int32)), (.int (0 : Int32)), (.int (0 : Int32)), (.int (0 : Int32)), (.int (0 : Int32)), (.int (0 : Int32)), (.int (0 : Int32)), (.int (0 : Int32)), (.int (0 : Int32)), (.int (0 : Int32)), (.int (0 : Int32)), (.int (0 : Int32)), (.int (0 : Int32)), (.int (0 : Int32)), (.int (0 : Int32)), (.int (0 : Int32)), (.int (0 : Int32)), (.int (0 : Int32)), (.int (0 : Int32)), (.int (0 : Int32)), (.int (0 : Int32)), (.int (0 : Int32)), (.int (0 : Int32))]) e2 F2 (by decide) (Nat.le_of_ble_eq_true rfl) rfl at_12 rfl ?_
  intro T3 h3 X3 e3 W3 F3
  have N3 := Fr.snoc X3 N2 ge1
  have Ol3 := Ol2.wr W3 ge1
  refine g_dup X3 K (q := 14) at_13 rfl rfl ?_
  refine g_iconst X3 K (q := 15) (v := (2 : Int32)) at_14 (by decide) rfl ?_
  refine g_bipush X3 K (q := 17) (v := (45 : Int32)) at_15 (by decide) rfl ?_
  refine g_iast X3 K (q := 18) (vs' := [(.int (0 : Int32)), (.int (58 : Int32)), (.int (45 : Int32)), (.int (0 : Int32)), (.int (0 : Int32)), (.int (0 : Int32)), (.int (0 : Int32)), (.int (0 : Int32)), (.int (0 : Int32)), (.int (0 : Int32)), (.int (0 : Int32)), (.int (0 : Int32)), (.int (0 : Int32)), (.int (0 : Int32)), (.int (0 : Int32)), (.int (0 : Int32)), (.int (0 : Int32)), (.int (0 : Int32)), (.int (0 : Int32)), (.int (0 : Int32)), (.int (0 : Int32)), (.int (0 : Int32)), (.int (0 : Int32)), (.int (0 : Int32)), (.int (0 : Int32)), (.int (0 : Int32)), (.int (0 : Int32)), (.int (0 : Int32)), (.int (0 : Int32)), (.int (0 : Int32)), (.int (0 : Int32)), (.int (0 : Int32)), (.int (0 : Int32)), (.int (0 : Int32)), (.int (0 : Int32)), (.int (0 : Int32)), (.int (0 : Int32)), (.int (0 : Int32)), (.int (0 : Int32)), (.int (0 : Int32)), (.int (0 : Int32))]) e3 F3 (by decide) (Nat.le_of_ble_eq_true rfl) rfl at_17 rfl ?_
  intro T4 h4 X4 e4 W4 F4
  have N4 := Fr.snoc X4 N3 ge1
  have Ol4 := Ol3.wr W4 ge1
  refine g_dup X4 K (q := 19) at_18 rfl rfl ?_
  refine g_iconst X4 K (q := 20) (v := (3 : Int32)) at_19 (by decide) rfl ?_
  refine g_bipush X4 K (q := 22) (v := (46 : Int32)) at_20 (by decide) rfl ?_
  refine g_iast X4 K (q := 23) (vs' := [(.int (0 : Int32)), (.int (58 : Int32)), (.int (45 : Int32)), (.int (46 : Int32)), (.int (0 : Int32)), (.int (0 : Int32)), (.int (0 : Int32)), (.int (0 : Int32)), (.int (0 : Int32)), (.int (0 : Int32)), (.int (0 : Int32)), (.int (0 : Int32)), (.int (0 : Int32)), (.int (0 : Int32)), (.int (0 : Int32)), (.int (0 : Int32)), (.int (0 : Int32)), (.int (0 : Int32)), (.int (0 : Int32)), (.int (0 : Int32)), (.int (0 : Int32)), (.int (0 : Int32)), (.int (0 : Int32)), (.int (0 : Int32)), (.int (0 : Int32)), (.int (0 : Int32)), (.int (0 : Int32)), (.int (0 : Int32)), (.int (0 : Int32)), (.int (0 : Int32)), (.int (0 : Int32)), (.int (0 : Int32)), (.int (0 : Int32)), (.int (0 : Int32)), (.int (0 : Int32)), (.int (0 : Int32)), (.int (0 : Int32)), (.int (0 : Int32)), (.int (0 : Int32)), (.int (0 : Int32)), (.int (0 : Int32))]) e4 F4 (by decide) (Nat.le_of_ble_eq_true rfl) rfl at_22 rfl ?_
  intro T5 h5 X5 e5 W5 F5
  have N5 := Fr.snoc X5 N4 ge1
  have Ol5 := Ol4.wr W5 ge1
  refine g_dup X5 K (q := 24) at_23 rfl rfl ?_
  refine g_iconst X5 K (q := 25) (v := (4 : Int32)) at_24 (by decide) rfl ?_
  refine g_bipush X5 K (q := 27) (v := (47 : Int32)) at_25 (by decide) rfl ?_
  refine g_iast X5 K (q := 28) (vs' := [(.int (0 : Int32)), (.int (58 : Int32)), (.int (45 : Int32)), (.int (46 : Int32)), (.int (47 : Int32)), (.int (0 : Int32)), (.int (0 : Int32)), (.int (0 : Int32)), (.int (0 : Int32)), (.int (0 : Int32)), (.int (0 : Int32)), (.int (0 : Int32)), (.int (0 : Int32)), (.int (0 : Int32)), (.int (0 : Int32)), (.int (0 : Int32)), (.int (0 : Int32)), (.int (0 : Int32)), (.int (0 : Int32)), (.int (0 : Int32)), (.int (0 : Int32)), (.int (0 : Int32)), (.int (0 : Int32)), (.int (0 : Int32)), (.int (0 : Int32)), (.int (0 : Int32)), (.int (0 : Int32)), (.int (0 : Int32)), (.int (0 : Int32)), (.int (0 : Int32)), (.int (0 : Int32)), (.int (0 : Int32)), (.int (0 : Int32)), (.int (0 : Int32)), (.int (0 : Int32)), (.int (0 : Int32)), (.int (0 : Int32)), (.int (0 : Int32)), (.int (0 : Int32)), (.int (0 : Int32)), (.int (0 : Int32))]) e5 F5 (by decide) (Nat.le_of_ble_eq_true rfl) rfl at_27 rfl ?_
  intro T6 h6 X6 e6 W6 F6
  have N6 := Fr.snoc X6 N5 ge1
  have Ol6 := Ol5.wr W6 ge1
  refine g_dup X6 K (q := 29) at_28 rfl rfl ?_
  refine g_iconst X6 K (q := 30) (v := (5 : Int32)) at_29 (by decide) rfl ?_
  refine g_bipush X6 K (q := 32) (v := (48 : Int32)) at_30 (by decide) rfl ?_
  refine g_iast X6 K (q := 33) (vs' := [(.int (0 : Int32)), (.int (58 : Int32)), (.int (45 : Int32)), (.int (46 : Int32)), (.int (47 : Int32)), (.int (48 : Int32)), (.int (0 : Int32)), (.int (0 : Int32)), (.int (0 : Int32)), (.int (0 : Int32)), (.int (0 : Int32)), (.int (0 : Int32)), (.int (0 : Int32)), (.int (0 : Int32)), (.int (0 : Int32)), (.int (0 : Int32)), (.int (0 : Int32)), (.int (0 : Int32)), (.int (0 : Int32)), (.int (0 : Int32)), (.int (0 : Int32)), (.int (0 : Int32)), (.int (0 : Int32)), (.int (0 : Int32)), (.int (0 : Int32)), (.int (0 : Int32)), (.int (0 : Int32)), (.int (0 : Int32)), (.int (0 : Int32)), (.int (0 : Int32)), (.int (0 : Int32)), (.int (0 : Int32)), (.int (0 : Int32)), (.int (0 : Int32)), (.int (0 : Int32)), (.int (0 : Int32)), (.int (0 : Int32)), (.int (0 : Int32)), (.int (0 : Int32)), (.int (0 : Int32)), (.int (0 : Int32))]) e6 F6 (by decide) (Nat.le_of_ble_eq_true rfl) rfl at_32 rfl ?_
  intro T7 h7 X7 e7 W7 F7
  have N7 := Fr.snoc X7 N6 ge1
  have Ol7 := Ol6.wr W7 ge1
  refine g_dup X7 K (q := 34) at_33 rfl rfl ?_
  refine g_bipush X7 K (q := 36) (v := (6 : Int32)) at_34 (by decide) rfl ?_
  refine g_bipush X7 K (q := 38) (v := (57 : Int32)) at_36 (by decide) rfl ?_
  refine g_iast X7 K (q := 39) (vs' := [(.int (0 : Int32)), (.int (58 : Int32)), (.int (45 : Int32)), (.int (46 : Int32)), (.int (47 : Int32)), (.int (48 : Int32)), (.int (57 : Int32)), (.int (0 : Int32)), (.int (0 : Int32)), (.int (0 : Int32)), (.int (0 : Int32)), (.int (0 : Int32)), (.int (0 : Int32)), (.int (0 : Int32)), (.int (0 : Int32)), (.int (0 : Int32)), (.int (0 : Int32)), (.int (0 : Int32)), (.int (0 : Int32)), (.int (0 : Int32)), (.int (0 : Int32)), (.int (0 : Int32)), (.int (0 : Int32)), (.int (0 : Int32)), (.int (0 : Int32)), (.int (0 : Int32)), (.int (0 : Int32)), (.int (0 : Int32)), (.int (0 : Int32)), (.int (0 : Int32)), (.int (0 : Int32)), (.int (0 : Int32)), (.int (0 : Int32)), (.int (0 : Int32)), (.int (0 : Int32)), (.int (0 : Int32)), (.int (0 : Int32)), (.int (0 : Int32)), (.int (0 : Int32)), (.int (0 : Int32)), (.int (0 : Int32))]) e7 F7 (by decide) (Nat.le_of_ble_eq_true rfl) rfl at_38 rfl ?_
  intro T8 h8 X8 e8 W8 F8
  have N8 := Fr.snoc X8 N7 ge1
  have Ol8 := Ol7.wr W8 ge1
  refine g_dup X8 K (q := 40) at_39 rfl rfl ?_
  refine g_bipush X8 K (q := 42) (v := (7 : Int32)) at_40 (by decide) rfl ?_
  refine g_bipush X8 K (q := 44) (v := (65 : Int32)) at_42 (by decide) rfl ?_
  refine g_iast X8 K (q := 45) (vs' := [(.int (0 : Int32)), (.int (58 : Int32)), (.int (45 : Int32)), (.int (46 : Int32)), (.int (47 : Int32)), (.int (48 : Int32)), (.int (57 : Int32)), (.int (65 : Int32)), (.int (0 : Int32)), (.int (0 : Int32)), (.int (0 : Int32)), (.int (0 : Int32)), (.int (0 : Int32)), (.int (0 : Int32)), (.int (0 : Int32)), (.int (0 : Int32)), (.int (0 : Int32)), (.int (0 : Int32)), (.int (0 : Int32)), (.int (0 : Int32)), (.int (0 : Int32)), (.int (0 : Int32)), (.int (0 : Int32)), (.int (0 : Int32)), (.int (0 : Int32)), (.int (0 : Int32)), (.int (0 : Int32)), (.int (0 : Int32)), (.int (0 : Int32)), (.int (0 : Int32)), (.int (0 : Int32)), (.int (0 : Int32)), (.int (0 : Int32)), (.int (0 : Int32)), (.int (0 : Int32)), (.int (0 : Int32)), (.int (0 : Int32)), (.int (0 : Int32)), (.int (0 : Int32)), (.int (0 : Int32)), (.int (0 : Int32))]) e8 F8 (by decide) (Nat.le_of_ble_eq_true rfl) rfl at_44 rfl ?_
  intro T9 h9 X9 e9 W9 F9
  have N9 := Fr.snoc X9 N8 ge1
  have Ol9 := Ol8.wr W9 ge1
  refine g_dup X9 K (q := 46) at_45 rfl rfl ?_
  refine g_bipush X9 K (q := 48) (v := (8 : Int32)) at_46 (by decide) rfl ?_
  refine g_bipush X9 K (q := 50) (v := (90 : Int32)) at_48 (by decide) rfl ?_
  refine g_iast X9 K (q := 51) (vs' := [(.int (0 : Int32)), (.int (58 : Int32)), (.int (45 : Int32)), (.int (46 : Int32)), (.int (47 : Int32)), (.int (48 : Int32)), (.int (57 : Int32)), (.int (65 : Int32)), (.int (90 : Int32)), (.int (0 : Int32)), (.int (0 : Int32)), (.int (0 : Int32)), (.int (0 : Int32)), (.int (0 : Int32)), (.int (0 : Int32)), (.int (0 : Int32)), (.int (0 : Int32)), (.int (0 : Int32)), (.int (0 : Int32)), (.int (0 : Int32)), (.int (0 : Int32)), (.int (0 : Int32)), (.int (0 : Int32)), (.int (0 : Int32)), (.int (0 : Int32)), (.int (0 : Int32)), (.int (0 : Int32)), (.int (0 : Int32)), (.int (0 : Int32)), (.int (0 : Int32)), (.int (0 : Int32)), (.int (0 : Int32)), (.int (0 : Int32)), (.int (0 : Int32)), (.int (0 : Int32)), (.int (0 : Int32)), (.int (0 : Int32)), (.int (0 : Int32)), (.int (0 : Int32)), (.int (0 : Int32)), (.int (0 : Int32))]) e9 F9 (by decide) (Nat.le_of_ble_eq_true rfl) rfl at_50 rfl ?_
  intro T10 h10 X10 e10 W10 F10
  have N10 := Fr.snoc X10 N9 ge1
  have Ol10 := Ol9.wr W10 ge1
  refine g_dup X10 K (q := 52) at_51 rfl rfl ?_
  refine g_bipush X10 K (q := 54) (v := (9 : Int32)) at_52 (by decide) rfl ?_
  refine g_bipush X10 K (q := 56) (v := (95 : Int32)) at_54 (by decide) rfl ?_
  refine g_iast X10 K (q := 57) (vs' := [(.int (0 : Int32)), (.int (58 : Int32)), (.int (45 : Int32)), (.int (46 : Int32)), (.int (47 : Int32)), (.int (48 : Int32)), (.int (57 : Int32)), (.int (65 : Int32)), (.int (90 : Int32)), (.int (95 : Int32)), (.int (0 : Int32)), (.int (0 : Int32)), (.int (0 : Int32)), (.int (0 : Int32)), (.int (0 : Int32)), (.int (0 : Int32)), (.int (0 : Int32)), (.int (0 : Int32)), (.int (0 : Int32)), (.int (0 : Int32)), (.int (0 : Int32)), (.int (0 : Int32)), (.int (0 : Int32)), (.int (0 : Int32)), (.int (0 : Int32)), (.int (0 : Int32)), (.int (0 : Int32)), (.int (0 : Int32)), (.int (0 : Int32)), (.int (0 : Int32)), (.int (0 : Int32)), (.int (0 : Int32)), (.int (0 : Int32)), (.int (0 : Int32)), (.int (0 : Int32)), (.int (0 : Int32)), (.int (0 : Int32)), (.int (0 : Int32)), (.int (0 : Int32)), (.int (0 : Int32)), (.int (0 : Int32))]) e10 F10 (by decide) (Nat.le_of_ble_eq_true rfl) rfl at_56 rfl ?_
  intro T11 h11 X11 e11 W11 F11
  have N11 := Fr.snoc X11 N10 ge1
  have Ol11 := Ol10.wr W11 ge1
  refine g_dup X11 K (q := 58) at_57 rfl rfl ?_
  refine g_bipush X11 K (q := 60) (v := (10 : Int32)) at_58 (by decide) rfl ?_
  refine g_bipush X11 K (q := 62) (v := (97 : Int32)) at_60 (by decide) rfl ?_
  refine g_iast X11 K (q := 63) (vs' := [(.int (0 : Int32)), (.int (58 : Int32)), (.int (45 : Int32)), (.int (46 : Int32)), (.int (47 : Int32)), (.int (48 : Int32)), (.int (57 : Int32)), (.int (65 : Int32)), (.int (90 : Int32)), (.int (95 : Int32)), (.int (97 : Int32)), (.int (0 : Int32)), (.int (0 : Int32)), (.int (0 : Int32)), (.int (0 : Int32)), (.int (0 : Int32)), (.int (0 : Int32)), (.int (0 : Int32)), (.int (0 : Int32)), (.int (0 : Int32)), (.int (0 : Int32)), (.int (0 : Int32)), (.int (0 : Int32)), (.int (0 : Int32)), (.int (0 : Int32)), (.int (0 : Int32)), (.int (0 : Int32)), (.int (0 : Int32)), (.int (0 : Int32)), (.int (0 : Int32)), (.int (0 : Int32)), (.int (0 : Int32)), (.int (0 : Int32)), (.int (0 : Int32)), (.int (0 : Int32)), (.int (0 : Int32)), (.int (0 : Int32)), (.int (0 : Int32)), (.int (0 : Int32)), (.int (0 : Int32)), (.int (0 : Int32))]) e11 F11 (by decide) (Nat.le_of_ble_eq_true rfl) rfl at_62 rfl ?_
  intro T12 h12 X12 e12 W12 F12
  have N12 := Fr.snoc X12 N11 ge1
  have Ol12 := Ol11.wr W12 ge1
  refine g_dup X12 K (q := 64) at_63 rfl rfl ?_
  refine g_bipush X12 K (q := 66) (v := (11 : Int32)) at_64 (by decide) rfl ?_
  refine g_bipush X12 K (q := 68) (v := (122 : Int32)) at_66 (by decide) rfl ?_
  refine g_iast X12 K (q := 69) (vs' := [(.int (0 : Int32)), (.int (58 : Int32)), (.int (45 : Int32)), (.int (46 : Int32)), (.int (47 : Int32)), (.int (48 : Int32)), (.int (57 : Int32)), (.int (65 : Int32)), (.int (90 : Int32)), (.int (95 : Int32)), (.int (97 : Int32)), (.int (122 : Int32)), (.int (0 : Int32)), (.int (0 : Int32)), (.int (0 : Int32)), (.int (0 : Int32)), (.int (0 : Int32)), (.int (0 : Int32)), (.int (0 : Int32)), (.int (0 : Int32)), (.int (0 : Int32)), (.int (0 : Int32)), (.int (0 : Int32)), (.int (0 : Int32)), (.int (0 : Int32)), (.int (0 : Int32)), (.int (0 : Int32)), (.int (0 : Int32)), (.int (0 : Int32)), (.int (0 : Int32)), (.int (0 : Int32)), (.int (0 : Int32)), (.int (0 : Int32)), (.int (0 : Int32)), (.int (0 : Int32)), (.int (0 : Int32)), (.int (0 : Int32)), (.int (0 : Int32)), (.int (0 : Int32)), (.int (0 : Int32)), (.int (0 : Int32))]) e12 F12 (by decide) (Nat.le_of_ble_eq_true rfl) rfl at_68 rfl ?_
  intro T13 h13 X13 e13 W13 F13
  have N13 := Fr.snoc X13 N12 ge1
  have Ol13 := Ol12.wr W13 ge1
  refine g_dup X13 K (q := 70) at_69 rfl rfl ?_
  refine g_bipush X13 K (q := 72) (v := (12 : Int32)) at_70 (by decide) rfl ?_
  refine g_sipush X13 K (q := 75) (v := (183 : Int32)) at_72 (by decide) rfl ?_
  refine g_iast X13 K (q := 76) (vs' := [(.int (0 : Int32)), (.int (58 : Int32)), (.int (45 : Int32)), (.int (46 : Int32)), (.int (47 : Int32)), (.int (48 : Int32)), (.int (57 : Int32)), (.int (65 : Int32)), (.int (90 : Int32)), (.int (95 : Int32)), (.int (97 : Int32)), (.int (122 : Int32)), (.int (183 : Int32)), (.int (0 : Int32)), (.int (0 : Int32)), (.int (0 : Int32)), (.int (0 : Int32)), (.int (0 : Int32)), (.int (0 : Int32)), (.int (0 : Int32)), (.int (0 : Int32)), (.int (0 : Int32)), (.int (0 : Int32)), (.int (0 : Int32)), (.int (0 : Int32)), (.int (0 : Int32)), (.int (0 : Int32)), (.int (0 : Int32)), (.int (0 : Int32)), (.int (0 : Int32)), (.int (0 : Int32)), (.int (0 : Int32)), (.int (0 : Int32)), (.int (0 : Int32)), (.int (0 : Int32)), (.int (0 : Int32)), (.int (0 : Int32)), (.int (0 : Int32)), (.int (0 : Int32)), (.int (0 : Int32)), (.int (0 : Int32))]) e13 F13 (by decide) (Nat.le_of_ble_eq_true rfl) rfl at_75 rfl ?_
  intro T14 h14 X14 e14 W14 F14
  have N14 := Fr.snoc X14 N13 ge1
  have Ol14 := Ol13.wr W14 ge1
  refine g_dup X14 K (q := 77) at_76 rfl rfl ?_
  refine g_bipush X14 K (q := 79) (v := (13 : Int32)) at_77 (by decide) rfl ?_
  refine g_sipush X14 K (q := 82) (v := (192 : Int32)) at_79 (by decide) rfl ?_
  refine g_iast X14 K (q := 83) (vs' := [(.int (0 : Int32)), (.int (58 : Int32)), (.int (45 : Int32)), (.int (46 : Int32)), (.int (47 : Int32)), (.int (48 : Int32)), (.int (57 : Int32)), (.int (65 : Int32)), (.int (90 : Int32)), (.int (95 : Int32)), (.int (97 : Int32)), (.int (122 : Int32)), (.int (183 : Int32)), (.int (192 : Int32)), (.int (0 : Int32)), (.int (0 : Int32)), (.int (0 : Int32)), (.int (0 : Int32)), (.int (0 : Int32)), (.int (0 : Int32)), (.int (0 : Int32)), (.int (0 : Int32)), (.int (0 : Int32)), (.int (0 : Int32)), (.int (0 : Int32)), (.int (0 : Int32)), (.int (0 : Int32)), (.int (0 : Int32)), (.int (0 : Int32)), (.int (0 : Int32)), (.int (0 : Int32)), (.int (0 : Int32)), (.int (0 : Int32)), (.int (0 : Int32)), (.int (0 : Int32)), (.int (0 : Int32)), (.int (0 : Int32)), (.int (0 : Int32)), (.int (0 : Int32)), (.int (0 : Int32)), (.int (0 : Int32))]) e14 F14 (by decide) (Nat.le_of_ble_eq_true rfl) rfl at_82 rfl ?_
  intro T15 h15 X15 e15 W15 F15
  have N15 := Fr.snoc X15 N14 ge1
  have Ol15 := Ol14.wr W15 ge1
  refine g_dup X15 K (q := 84) at_83 rfl rfl ?_
  refine g_bipush X15 K (q := 86) (v := (14 : Int32)) at_84 (by decide) rfl ?_
  refine g_sipush X15 K (q := 89) (v := (215 : Int32)) at_86 (by decide) rfl ?_
  refine g_iast X15 K (q := 90) (vs' := [(.int (0 : Int32)), (.int (58 : Int32)), (.int (45 : Int32)), (.int (46 : Int32)), (.int (47 : Int32)), (.int (48 : Int32)), (.int (57 : Int32)), (.int (65 : Int32)), (.int (90 : Int32)), (.int (95 : Int32)), (.int (97 : Int32)), (.int (122 : Int32)), (.int (183 : Int32)), (.int (192 : Int32)), (.int (215 : Int32)), (.int (0 : Int32)), (.int (0 : Int32)), (.int (0 : Int32)), (.int (0 : Int32)), (.int (0 : Int32)), (.int (0 : Int32)), (.int (0 : Int32)), (.int (0 : Int32)), (.int (0 : Int32)), (.int (0 : Int32)), (.int (0 : Int32)), (.int (0 : Int32)), (.int (0 : Int32)), (.int (0 : Int32)), (.int (0 : Int32)), (.int (0 : Int32)), (.int (0 : Int32)), (.int (0 : Int32)), (.int (0 : Int32)), (.int (0 : Int32)), (.int (0 : Int32)), (.int (0 : Int32)), (.int (0 : Int32)), (.int (0 : Int32)), (.int (0 : Int32)), (.int (0 : Int32))]) e15 F15 (by decide) (Nat.le_of_ble_eq_true rfl) rfl at_89 rfl ?_
  intro T16 h16 X16 e16 W16 F16
  have N16 := Fr.snoc X16 N15 ge1
  have Ol16 := Ol15.wr W16 ge1
  refine g_dup X16 K (q := 91) at_90 rfl rfl ?_
  refine g_bipush X16 K (q := 93) (v := (15 : Int32)) at_91 (by decide) rfl ?_
  refine g_sipush X16 K (q := 96) (v := (247 : Int32)) at_93 (by decide) rfl ?_
  refine g_iast X16 K (q := 97) (vs' := [(.int (0 : Int32)), (.int (58 : Int32)), (.int (45 : Int32)), (.int (46 : Int32)), (.int (47 : Int32)), (.int (48 : Int32)), (.int (57 : Int32)), (.int (65 : Int32)), (.int (90 : Int32)), (.int (95 : Int32)), (.int (97 : Int32)), (.int (122 : Int32)), (.int (183 : Int32)), (.int (192 : Int32)), (.int (215 : Int32)), (.int (247 : Int32)), (.int (0 : Int32)), (.int (0 : Int32)), (.int (0 : Int32)), (.int (0 : Int32)), (.int (0 : Int32)), (.int (0 : Int32)), (.int (0 : Int32)), (.int (0 : Int32)), (.int (0 : Int32)), (.int (0 : Int32)), (.int (0 : Int32)), (.int (0 : Int32)), (.int (0 : Int32)), (.int (0 : Int32)), (.int (0 : Int32)), (.int (0 : Int32)), (.int (0 : Int32)), (.int (0 : Int32)), (.int (0 : Int32)), (.int (0 : Int32)), (.int (0 : Int32)), (.int (0 : Int32)), (.int (0 : Int32)), (.int (0 : Int32)), (.int (0 : Int32))]) e16 F16 (by decide) (Nat.le_of_ble_eq_true rfl) rfl at_96 rfl ?_
  intro T17 h17 X17 e17 W17 F17
  have N17 := Fr.snoc X17 N16 ge1
  have Ol17 := Ol16.wr W17 ge1
  refine g_dup X17 K (q := 98) at_97 rfl rfl ?_
  refine g_bipush X17 K (q := 100) (v := (16 : Int32)) at_98 (by decide) rfl ?_
  refine g_sipush X17 K (q := 103) (v := (767 : Int32)) at_100 (by decide) rfl ?_
  refine g_iast X17 K (q := 104) (vs' := [(.int (0 : Int32)), (.int (58 : Int32)), (.int (45 : Int32)), (.int (46 : Int32)), (.int (47 : Int32)), (.int (48 : Int32)), (.int (57 : Int32)), (.int (65 : Int32)), (.int (90 : Int32)), (.int (95 : Int32)), (.int (97 : Int32)), (.int (122 : Int32)), (.int (183 : Int32)), (.int (192 : Int32)), (.int (215 : Int32)), (.int (247 : Int32)), (.int (767 : Int32)), (.int (0 : Int32)), (.int (0 : Int32)), (.int (0 : Int32)), (.int (0 : Int32)), (.int (0 : Int32)), (.int (0 : Int32)), (.int (0 : Int32)), (.int (0 : Int32)), (.int (0 : Int32)), (.int (0 : Int32)), (.int (0 : Int32)), (.int (0 : Int32)), (.int (0 : Int32)), (.int (0 : Int32)), (.int (0 : Int32)), (.int (0 : Int32)), (.int (0 : Int32)), (.int (0 : Int32)), (.int (0 : Int32)), (.int (0 : Int32)), (.int (0 : Int32)), (.int (0 : Int32)), (.int (0 : Int32)), (.int (0 : Int32))]) e17 F17 (by decide) (Nat.le_of_ble_eq_true rfl) rfl at_103 rfl ?_
  intro T18 h18 X18 e18 W18 F18
  have N18 := Fr.snoc X18 N17 ge1
  have Ol18 := Ol17.wr W18 ge1
  refine g_dup X18 K (q := 105) at_104 rfl rfl ?_
  refine g_bipush X18 K (q := 107) (v := (17 : Int32)) at_105 (by decide) rfl ?_
  refine g_sipush X18 K (q := 110) (v := (768 : Int32)) at_107 (by decide) rfl ?_
  refine g_iast X18 K (q := 111) (vs' := [(.int (0 : Int32)), (.int (58 : Int32)), (.int (45 : Int32)), (.int (46 : Int32)), (.int (47 : Int32)), (.int (48 : Int32)), (.int (57 : Int32)), (.int (65 : Int32)), (.int (90 : Int32)), (.int (95 : Int32)), (.int (97 : Int32)), (.int (122 : Int32)), (.int (183 : Int32)), (.int (192 : Int32)), (.int (215 : Int32)), (.int (247 : Int32)), (.int (767 : Int32)), (.int (768 : Int32)), (.int (0 : Int32)), (.int (0 : Int32)), (.int (0 : Int32)), (.int (0 : Int32)), (.int (0 : Int32)), (.int (0 : Int32)), (.int (0 : Int32)), (.int (0 : Int32)), (.int (0 : Int32)), (.int (0 : Int32)), (.int (0 : Int32)), (.int (0 : Int32)), (.int (0 : Int32)), (.int (0 : Int32)), (.int (0 : Int32)), (.int (0 : Int32)), (.int (0 : Int32)), (.int (0 : Int32)), (.int (0 : Int32)), (.int (0 : Int32)), (.int (0 : Int32)), (.int (0 : Int32)), (.int (0 : Int32))]) e18 F18 (by decide) (Nat.le_of_ble_eq_true rfl) rfl at_110 rfl ?_
  intro T19 h19 X19 e19 W19 F19
  have N19 := Fr.snoc X19 N18 ge1
  have Ol19 := Ol18.wr W19 ge1
  refine g_dup X19 K (q := 112) at_111 rfl rfl ?_
  refine g_bipush X19 K (q := 114) (v := (18 : Int32)) at_112 (by decide) rfl ?_
  refine g_sipush X19 K (q := 117) (v := (879 : Int32)) at_114 (by decide) rfl ?_
  refine g_iast X19 K (q := 118) (vs' := [(.int (0 : Int32)), (.int (58 : Int32)), (.int (45 : Int32)), (.int (46 : Int32)), (.int (47 : Int32)), (.int (48 : Int32)), (.int (57 : Int32)), (.int (65 : Int32)), (.int (90 : Int32)), (.int (95 : Int32)), (.int (97 : Int32)), (.int (122 : Int32)), (.int (183 : Int32)), (.int (192 : Int32)), (.int (215 : Int32)), (.int (247 : Int32)), (.int (767 : Int32)), (.int (768 : Int32)), (.int (879 : Int32)), (.int (0 : Int32)), (.int (0 : Int32)), (.int (0 : Int32)), (.int (0 : Int32)), (.int (0 : Int32)), (.int (0 : Int32)), (.int (0 : Int32)), (.int (0 : Int32)), (.int (0 : Int32)), (.int (0 : Int32)), (.int (0 : Int32)), (.int (0 : Int32)), (.int (0 : Int32)), (.int (0 : Int32)), (.int (0 : Int32)), (.int (0 : Int32)), (.int (0 : Int32)), (.int (0 : Int32)), (.int (0 : Int32)), (.int (0 : Int32)), (.int (0 : Int32)), (.int (0 : Int32))]) e19 F19 (by decide) (Nat.le_of_ble_eq_true rfl) rfl at_117 rfl ?_
  intro T20 h20 X20 e20 W20 F20
  have N20 := Fr.snoc X20 N19 ge1
  have Ol20 := Ol19.wr W20 ge1
  refine g_dup X20 K (q := 119) at_118 rfl rfl ?_
  refine g_bipush X20 K (q := 121) (v := (19 : Int32)) at_119 (by decide) rfl ?_
  refine g_sipush X20 K (q := 124) (v := (880 : Int32)) at_121 (by decide) rfl ?_
  refine g_iast X20 K (q := 125) (vs' := [(.int (0 : Int32)), (.int (58 : Int32)), (.int (45 : Int32)), (.int (46 : Int32)), (.int (47 : Int32)), (.int (48 : Int32)), (.int (57 : Int32)), (.int (65 : Int32)), (.int (90 : Int32)), (.int (95 : Int32)), (.int (97 : Int32)), (.int (122 : Int32)), (.int (183 : Int32)), (.int (192 : Int32)), (.int (215 : Int32)), (.int (247 : Int32)), (.int (767 : Int32)), (.int (768 : Int32)), (.int (879 : Int32)), (.int (880 : Int32)), (.int (0 : Int32)), (.int (0 : Int32)), (.int (0 : Int32)), (.int (0 : Int32)), (.int (0 : Int32)), (.int (0 : Int32)), (.int (0 : Int32)), (.int (0 : Int32)), (.int (0 : Int32)), (.int (0 : Int32)), (.int (0 : Int32)), (.int (0 : Int32)), (.int (0 : Int32)), (.int (0 : Int32)), (.int (0 : Int32)), (.int (0 : Int32)), (.int (0 : Int32)), (.int (0 : Int32)), (.int (0 : Int32)), (.int (0 : Int32)), (.int (0 : Int32))]) e20 F20 (by decide) (Nat.le_of_ble_eq_true rfl) rfl at_124 rfl ?_
  intro T21 h21 X21 e21 W21 F21
  have N21 := Fr.snoc X21 N20 ge1
  have Ol21 := Ol20.wr W21 ge1
  refine g_dup X21 K (q := 126) at_125 rfl rfl ?_
  refine g_bipush X21 K (q := 128) (v := (20 : Int32)) at_126 (by decide) rfl ?_
  refine g_sipush X21 K (q := 131) (v := (894 : Int32)) at_128 (by decide) rfl ?_
  refine g_iast X21 K (q := 132) (vs' := [(.int (0 : Int32)), (.int (58 : Int32)), (.int (45 : Int32)), (.int (46 : Int32)), (.int (47 : Int32)), (.int (48 : Int32)), (.int (57 : Int32)), (.int (65 : Int32)), (.int (90 : Int32)), (.int (95 : Int32)), (.int (97 : Int32)), (.int (122 : Int32)), (.int (183 : Int32)), (.int (192 : Int32)), (.int (215 : Int32)), (.int (247 : Int32)), (.int (767 : Int32)), (.int (768 : Int32)), (.int (879 : Int32)), (.int (880 : Int32)), (.int (894 : Int32)), (.int (0 : Int32)), (.int (0 : Int32)), (.int (0 : Int32)), (.int (0 : Int32)), (.int (0 : Int32)), (.int (0 : Int32)), (.int (0 : Int32)), (.int (0 : Int32)), (.int (0 : Int32)), (.int (0 : Int32)), (.int (0 : Int32)), (.int (0 : Int32)), (.int (0 : Int32)), (.int (0 : Int32)), (.int (0 : Int32)), (.int (0 : Int32)), (.int (0 : Int32)), (.int (0 : Int32)), (.int (0 : Int32)), (.int (0 : Int32))]) e21 F21 (by decide) (Nat.le_of_ble_eq_true rfl) rfl at_131 rfl ?_
  intro T22 h22 X22 e22 W22 F22
  have N22 := Fr.snoc X22 N21 ge1
  have Ol22 := Ol21.wr W22 ge1
  refine g_dup X22 K (q := 133) at_132 rfl rfl ?_
  refine g_bipush X22 K (q := 135) (v := (21 : Int32)) at_133 (by decide) rfl ?_
  refine g_sipush X22 K (q := 138) (v := (8191 : Int32)) at_135 (by decide) rfl ?_
  refine g_iast X22 K (q := 139) (vs' := [(.int (0 : Int32)), (.int (58 : Int32)), (.int (45 : Int32)), (.int (46 : Int32)), (.int (47 : Int32)), (.int (48 : Int32)), (.int (57 : Int32)), (.int (65 : Int32)), (.int (90 : Int32)), (.int (95 : Int32)), (.int (97 : Int32)), (.int (122 : Int32)), (.int (183 : Int32)), (.int (192 : Int32)), (.int (215 : Int32)), (.int (247 : Int32)), (.int (767 : Int32)), (.int (768 : Int32)), (.int (879 : Int32)), (.int (880 : Int32)), (.int (894 : Int32)), (.int (8191 : Int32)), (.int (0 : Int32)), (.int (0 : Int32)), (.int (0 : Int32)), (.int (0 : Int32)), (.int (0 : Int32)), (.int (0 : Int32)), (.int (0 : Int32)), (.int (0 : Int32)), (.int (0 : Int32)), (.int (0 : Int32)), (.int (0 : Int32)), (.int (0 : Int32)), (.int (0 : Int32)), (.int (0 : Int32)), (.int (0 : Int32)), (.int (0 : Int32)), (.int (0 : Int32)), (.int (0 : Int32)), (.int (0 : Int32))]) e22 F22 (by decide) (Nat.le_of_ble_eq_true rfl) rfl at_138 rfl ?_
  intro T23 h23 X23 e23 W23 F23
  have N23 := Fr.snoc X23 N22 ge1
  have Ol23 := Ol22.wr W23 ge1
  refine g_dup X23 K (q := 140) at_139 rfl rfl ?_
  refine g_bipush X23 K (q := 142) (v := (22 : Int32)) at_140 (by decide) rfl ?_
  refine g_sipush X23 K (q := 145) (v := (8204 : Int32)) at_142 (by decide) rfl ?_
  refine g_iast X23 K (q := 146) (vs' := [(.int (0 : Int32)), (.int (58 : Int32)), (.int (45 : Int32)), (.int (46 : Int32)), (.int (47 : Int32)), (.int (48 : Int32)), (.int (57 : Int32)), (.int (65 : Int32)), (.int (90 : Int32)), (.int (95 : Int32)), (.int (97 : Int32)), (.int (122 : Int32)), (.int (183 : Int32)), (.int (192 : Int32)), (.int (215 : Int32)), (.int (247 : Int32)), (.int (767 : Int32)), (.int (768 : Int32)), (.int (879 : Int32)), (.int (880 : Int32)), (.int (894 : Int32)), (.int (8191 : Int32)), (.int (8204 : Int32)), (.int (0 : Int32)), (.int (0 : Int32)), (.int (0 : Int32)), (.int (0 : Int32)), (.int (0 : Int32)), (.int (0 : Int32)), (.int (0 : Int32)), (.int (0 : Int32)), (.int (0 : Int32)), (.int (0 : Int32)), (.int (0 : Int32)), (.int (0 : Int32)), (.int (0 : Int32)), (.int (0 : Int32)), (.int (0 : Int32)), (.int (0 : Int32)), (.int (0 : Int32)), (.int (0 : Int32))]) e23 F23 (by decide) (Nat.le_of_ble_eq_true rfl) rfl at_145 rfl ?_
  intro T24 h24 X24 e24 W24 F24
  have N24 := Fr.snoc X24 N23 ge1
  have Ol24 := Ol23.wr W24 ge1
  refine g_dup X24 K (q := 147) at_146 rfl rfl ?_
  refine g_bipush X24 K (q := 149) (v := (23 : Int32)) at_147 (by decide) rfl ?_
  refine g_sipush X24 K (q := 152) (v := (8205 : Int32)) at_149 (by decide) rfl ?_
  refine g_iast X24 K (q := 153) (vs' := [(.int (0 : Int32)), (.int (58 : Int32)), (.int (45 : Int32)), (.int (46 : Int32)), (.int (47 : Int32)), (.int (48 : Int32)), (.int (57 : Int32)), (.int (65 : Int32)), (.int (90 : Int32)), (.int (95 : Int32)), (.int (97 : Int32)), (.int (122 : Int32)), (.int (183 : Int32)), (.int (192 : Int32)), (.int (215 : Int32)), (.int (247 : Int32)), (.int (767 : Int32)), (.int (768 : Int32)), (.int (879 : Int32)), (.int (880 : Int32)), (.int (894 : Int32)), (.int (8191 : Int32)), (.int (8204 : Int32)), (.int (8205 : Int32)), (.int (0 : Int32)), (.int (0 : Int32)), (.int (0 : Int32)), (.int (0 : Int32)), (.int (0 : Int32)), (.int (0 : Int32)), (.int (0 : Int32)), (.int (0 : Int32)), (.int (0 : Int32)), (.int (0 : Int32)), (.int (0 : Int32)), (.int (0 : Int32)), (.int (0 : Int32)), (.int (0 : Int32)), (.int (0 : Int32)), (.int (0 : Int32)), (.int (0 : Int32))]) e24 F24 (by decide) (Nat.le_of_ble_eq_true rfl) rfl at_152 rfl ?_
  intro T25 h25 X25 e25 W25 F25
  have N25 := Fr.snoc X25 N24 ge1
  have Ol25 := Ol24.wr W25 ge1
  refine g_dup X25 K (q := 154) at_153 rfl rfl ?_
  refine g_bipush X25 K (q := 156) (v := (24 : Int32)) at_154 (by decide) rfl ?_
  refine g_sipush X25 K (q := 159) (v := (8255 : Int32)) at_156 (by decide) rfl ?_
  refine g_iast X25 K (q := 160) (vs' := [(.int (0 : Int32)), (.int (58 : Int32)), (.int (45 : Int32)), (.int (46 : Int32)), (.int (47 : Int32)), (.int (48 : Int32)), (.int (57 : Int32)), (.int (65 : Int32)), (.int (90 : Int32)), (.int (95 : Int32)), (.int (97 : Int32)), (.int (122 : Int32)), (.int (183 : Int32)), (.int (192 : Int32)), (.int (215 : Int32)), (.int (247 : Int32)), (.int (767 : Int32)), (.int (768 : Int32)), (.int (879 : Int32)), (.int (880 : Int32)), (.int (894 : Int32)), (.int (8191 : Int32)), (.int (8204 : Int32)), (.int (8205 : Int32)), (.int (8255 : Int32)), (.int (0 : Int32)), (.int (0 : Int32)), (.int (0 : Int32)), (.int (0 : Int32)), (.int (0 : Int32)), (.int (0 : Int32)), (.int (0 : Int32)), (.int (0 : Int32)), (.int (0 : Int32)), (.int (0 : Int32)), (.int (0 : Int32)), (.int (0 : Int32)), (.int (0 : Int32)), (.int (0 : Int32)), (.int (0 : Int32)), (.int (0 : Int32))]) e25 F25 (by decide) (Nat.le_of_ble_eq_true rfl) rfl at_159 rfl ?_
  intro T26 h26 X26 e26 W26 F26
  have N26 := Fr.snoc X26 N25 ge1
  have Ol26 := Ol25.wr W26 ge1
  refine g_dup X26 K (q := 161) at_160 rfl rfl ?_
  refine g_bipush X26 K (q := 163) (v := (25 : Int32)) at_161 (by decide) rfl ?_
  refine g_sipush X26 K (q := 166) (v := (8256 : Int32)) at_163 (by decide) rfl ?_
  refine g_iast X26 K (q := 167) (vs' := [(.int (0 : Int32)), (.int (58 : Int32)), (.int (45 : Int32)), (.int (46 : Int32)), (.int (47 : Int32)), (.int (48 : Int32)), (.int (57 : Int32)), (.int (65 : Int32)), (.int (90 : Int32)), (.int (95 : Int32)), (.int (97 : Int32)), (.int (122 : Int32)), (.int (183 : Int32)), (.int (192 : Int32)), (.int (215 : Int32)), (.int (247 : Int32)), (.int (767 : Int32)), (.int (768 : Int32)), (.int (879 : Int32)), (.int (880 : Int32)), (.int (894 : Int32)), (.int (8191 : Int32)), (.int (8204 : Int32)), (.int (8205 : Int32)), (.int (8255 : Int32)), (.int (8256 : Int32)), (.int (0 : Int32)), (.int (0 : Int32)), (.int (0 : Int32)), (.int (0 : Int32)), (.int (0 : Int32)), (.int (0 : Int32)), (.int (0 : Int32)), (.int (0 : Int32)), (.int (0 : Int32)), (.int (0 : Int32)), (.int (0 : Int32)), (.int (0 : Int32)), (.int (0 : Int32)), (.int (0 : Int32)), (.int (0 : Int32))]) e26 F26 (by decide) (Nat.le_of_ble_eq_true rfl) rfl at_166 rfl ?_
  intro T27 h27 X27 e27 W27 F27
  have N27 := Fr.snoc X27 N26 ge1
  have Ol27 := Ol26.wr W27 ge1
  refine g_dup X27 K (q := 168) at_167 rfl rfl ?_
  refine g_bipush X27 K (q := 170) (v := (26 : Int32)) at_168 (by decide) rfl ?_
  refine g_sipush X27 K (q := 173) (v := (8304 : Int32)) at_170 (by decide) rfl ?_
  refine g_iast X27 K (q := 174) (vs' := [(.int (0 : Int32)), (.int (58 : Int32)), (.int (45 : Int32)), (.int (46 : Int32)), (.int (47 : Int32)), (.int (48 : Int32)), (.int (57 : Int32)), (.int (65 : Int32)), (.int (90 : Int32)), (.int (95 : Int32)), (.int (97 : Int32)), (.int (122 : Int32)), (.int (183 : Int32)), (.int (192 : Int32)), (.int (215 : Int32)), (.int (247 : Int32)), (.int (767 : Int32)), (.int (768 : Int32)), (.int (879 : Int32)), (.int (880 : Int32)), (.int (894 : Int32)), (.int (8191 : Int32)), (.int (8204 : Int32)), (.int (8205 : Int32)), (.int (8255 : Int32)), (.int (8256 : Int32)), (.int (8304 : Int32)), (.int (0 : Int32)), (.int (0 : Int32)), (.int (0 : Int32)), (.int (0 : Int32)), (.int (0 : Int32)), (.int (0 : Int32)), (.int (0 : Int32)), (.int (0 : Int32)), (.int (0 : Int32)), (.int (0 : Int32)), (.int (0 : Int32)), (.int (0 : Int32)), (.int (0 : Int32)), (.int (0 : Int32))]) e27 F27 (by decide) (Nat.le_of_ble_eq_true rfl) rfl at_173 rfl ?_
  intro T28 h28 X28 e28 W28 F28
  have N28 := Fr.snoc X28 N27 ge1
  have Ol28 := Ol27.wr W28 ge1
  refine g_dup X28 K (q := 175) at_174 rfl rfl ?_
  refine g_bipush X28 K (q := 177) (v := (27 : Int32)) at_175 (by decide) rfl ?_
  refine g_sipush X28 K (q := 180) (v := (8591 : Int32)) at_177 (by decide) rfl ?_
  refine g_iast X28 K (q := 181) (vs' := [(.int (0 : Int32)), (.int (58 : Int32)), (.int (45 : Int32)), (.int (46 : Int32)), (.int (47 : Int32)), (.int (48 : Int32)), (.int (57 : Int32)), (.int (65 : Int32)), (.int (90 : Int32)), (.int (95 : Int32)), (.int (97 : Int32)), (.int (122 : Int32)), (.int (183 : Int32)), (.int (192 : Int32)), (.int (215 : Int32)), (.int (247 : Int32)), (.int (767 : Int32)), (.int (768 : Int32)), (.int (879 : Int32)), (.int (880 : Int32)), (.int (894 : Int32)), (.int (8191 : Int32)), (.int (8204 : Int32)), (.int (8205 : Int32)), (.int (8255 : Int32)), (.int (8256 : Int32)), (.int (8304 : Int32)), (.int (8591 : Int32)), (.int (0 : Int32)), (.int (0 : Int32)), (.int (0 : Int32)), (.int (0 : Int32)), (.int (0 : Int32)), (.int (0 : Int32)), (.int (0 : Int32)), (.int (0 : Int32)), (.int (0 : Int32)), (.int (0 : Int32)), (.int (0 : Int32)), (.int (0 : Int32)), (.int (0 : Int32))]) e28 F28 (by decide) (Nat.le_of_ble_eq_true rfl) rfl at_180 rfl ?_
  intro T29 h29 X29 e29 W29 F29
  have N29 := Fr.snoc X29 N28 ge1
  have Ol29 := Ol28.wr W29 ge1
  refine g_dup X29 K (q := 182) at_181 rfl rfl ?_
  refine g_bipush X29 K (q := 184) (v := (28 : Int32)) at_182 (by decide) rfl ?_
  refine g_sipush X29 K (q := 187) (v := (11264 : Int32)) at_184 (by decide) rfl ?_
  refine g_iast X29 K (q := 188) (vs' := [(.int (0 : Int32)), (.int (58 : Int32)), (.int (45 : Int32)), (.int (46 : Int32)), (.int (47 : Int32)), (.int (48 : Int32)), (.int (57 : Int32)), (.int (65 : Int32)), (.int (90 : Int32)), (.int (95 : Int32)), (.int (97 : Int32)), (.int (122 : Int32)), (.int (183 : Int32)), (.int (192 : Int32)), (.int (215 : Int32)), (.int (247 : Int32)), (.int (767 : Int32)), (.int (768 : Int32)), (.int (879 : Int32)), (.int (880 : Int32)), (.int (894 : Int32)), (.int (8191 : Int32)), (.int (8204 : Int32)), (.int (8205 : Int32)), (.int (8255 : Int32)), (.int (8256 : Int32)), (.int (8304 : Int32)), (.int (8591 : Int32)), (.int (11264 : Int32)), (.int (0 : Int32)), (.int (0 : Int32)), (.int (0 : Int32)), (.int (0 : Int32)), (.int (0 : Int32)), (.int (0 : Int32)), (.int (0 : Int32)), (.int (0 : Int32)), (.int (0 : Int32)), (.int (0 : Int32)), (.int (0 : Int32)), (.int (0 : Int32))]) e29 F29 (by decide) (Nat.le_of_ble_eq_true rfl) rfl at_187 rfl ?_
  intro T30 h30 X30 e30 W30 F30
  have N30 := Fr.snoc X30 N29 ge1
  have Ol30 := Ol29.wr W30 ge1
  refine g_dup X30 K (q := 189) at_188 rfl rfl ?_
  refine g_bipush X30 K (q := 191) (v := (29 : Int32)) at_189 (by decide) rfl ?_
  refine g_sipush X30 K (q := 194) (v := (12271 : Int32)) at_191 (by decide) rfl ?_
  refine g_iast X30 K (q := 195) (vs' := [(.int (0 : Int32)), (.int (58 : Int32)), (.int (45 : Int32)), (.int (46 : Int32)), (.int (47 : Int32)), (.int (48 : Int32)), (.int (57 : Int32)), (.int (65 : Int32)), (.int (90 : Int32)), (.int (95 : Int32)), (.int (97 : Int32)), (.int (122 : Int32)), (.int (183 : Int32)), (.int (192 : Int32)), (.int (215 : Int32)), (.int (247 : Int32)), (.int (767 : Int32)), (.int (768 : Int32)), (.int (879 : Int32)), (.int (880 : Int32)), (.int (894 : Int32)), (.int (8191 : Int32)), (.int (8204 : Int32)), (.int (8205 : Int32)), (.int (8255 : Int32)), (.int (8256 : Int32)), (.int (8304 : Int32)), (.int (8591 : Int32)), (.int (11264 : Int32)), (.int (12271 : Int32)), (.int (0 : Int32)), (.int (0 : Int32)), (.int (0 : Int32)), (.int (0 : Int32)), (.int (0 : Int32)), (.int (0 : Int32)), (.int (0 : Int32)), (.int (0 : Int32)), (.int (0 : Int32)), (.int (0 : Int32)), (.int (0 : Int32))]) e30 F30 (by decide) (Nat.le_of_ble_eq_true rfl) rfl at_194 rfl ?_
  intro T31 h31 X31 e31 W31 F31
  have N31 := Fr.snoc X31 N30 ge1
  have Ol31 := Ol30.wr W31 ge1
  refine g_dup X31 K (q := 196) at_195 rfl rfl ?_
  refine g_bipush X31 K (q := 198) (v := (30 : Int32)) at_196 (by decide) rfl ?_
  refine g_sipush X31 K (q := 201) (v := (12289 : Int32)) at_198 (by decide) rfl ?_
  refine g_iast X31 K (q := 202) (vs' := [(.int (0 : Int32)), (.int (58 : Int32)), (.int (45 : Int32)), (.int (46 : Int32)), (.int (47 : Int32)), (.int (48 : Int32)), (.int (57 : Int32)), (.int (65 : Int32)), (.int (90 : Int32)), (.int (95 : Int32)), (.int (97 : Int32)), (.int (122 : Int32)), (.int (183 : Int32)), (.int (192 : Int32)), (.int (215 : Int32)), (.int (247 : Int32)), (.int (767 : Int32)), (.int (768 : Int32)), (.int (879 : Int32)), (.int (880 : Int32)), (.int (894 : Int32)), (.int (8191 : Int32)), (.int (8204 : Int32)), (.int (8205 : Int32)), (.int (8255 : Int32)), (.int (8256 : Int32)), (.int (8304 : Int32)), (.int (8591 : Int32)), (.int (11264 : Int32)), (.int (12271 : Int32)), (.int (12289 : Int32)), (.int (0 : Int32)), (.int (0 : Int32)), (.int (0 : Int32)), (.int (0 : Int32)), (.int (0 : Int32)), (.int (0 : Int32)), (.int (0 : Int32)), (.int (0 : Int32)), (.int (0 : Int32)), (.int (0 : Int32))]) e31 F31 (by decide) (Nat.le_of_ble_eq_true rfl) rfl at_201 rfl ?_
  intro T32 h32 X32 e32 W32 F32
  have N32 := Fr.snoc X32 N31 ge1
  have Ol32 := Ol31.wr W32 ge1
  refine g_dup X32 K (q := 203) at_202 rfl rfl ?_
  refine g_bipush X32 K (q := 205) (v := (31 : Int32)) at_203 (by decide) rfl ?_
  refine g_ldc X32 K (q := 207) (w1 H) at_205 rfl ?_
  refine g_iast X32 K (q := 208) (vs' := [(.int (0 : Int32)), (.int (58 : Int32)), (.int (45 : Int32)), (.int (46 : Int32)), (.int (47 : Int32)), (.int (48 : Int32)), (.int (57 : Int32)), (.int (65 : Int32)), (.int (90 : Int32)), (.int (95 : Int32)), (.int (97 : Int32)), (.int (122 : Int32)), (.int (183 : Int32)), (.int (192 : Int32)), (.int (215 : Int32)), (.int (247 : Int32)), (.int (767 : Int32)), (.int (768 : Int32)), (.int (879 : Int32)), (.int (880 : Int32)), (.int (894 : Int32)), (.int (8191 : Int32)), (.int (8204 : Int32)), (.int (8205 : Int32)), (.int (8255 : Int32)), (.int (8256 : Int32)), (.int (8304 : Int32)), (.int (8591 : Int32)), (.int (11264 : Int32)), (.int (12271 : Int32)), (.int (12289 : Int32)), (.int (55295 : Int32)), (.int (0 : Int32)), (.int (0 : Int32)), (.int (0 : Int32)), (.int (0 : Int32)), (.int (0 : Int32)), (.int (0 : Int32)), (.int (0 : Int32)), (.int (0 : Int32)), (.int (0 : Int32))]) e32 F32 (by decide) (Nat.le_of_ble_eq_true rfl) rfl at_207 rfl ?_
  intro T33 h33 X33 e33 W33 F33
  have N33 := Fr.snoc X33 N32 ge1
  have Ol33 := Ol32.wr W33 ge1
  refine g_dup X33 K (q := 209) at_208 rfl rfl ?_
  refine g_bipush X33 K (q := 211) (v := (32 : Int32)) at_209 (by decide) rfl ?_
  refine g_ldc X33 K (q := 213) (w2 H) at_211 rfl ?_
  refine g_iast X33 K (q := 214) (vs' := [(.int (0 : Int32)), (.int (58 : Int32)), (.int (45 : Int32)), (.int (46 : Int32)), (.int (47 : Int32)), (.int (48 : Int32)), (.int (57 : Int32)), (.int (65 : Int32)), (.int (90 : Int32)), (.int (95 : Int32)), (.int (97 : Int32)), (.int (122 : Int32)), (.int (183 : Int32)), (.int (192 : Int32)), (.int (215 : Int32)), (.int (247 : Int32)), (.int (767 : Int32)), (.int (768 : Int32)), (.int (879 : Int32)), (.int (880 : Int32)), (.int (894 : Int32)), (.int (8191 : Int32)), (.int (8204 : Int32)), (.int (8205 : Int32)), (.int (8255 : Int32)), (.int (8256 : Int32)), (.int (8304 : Int32)), (.int (8591 : Int32)), (.int (11264 : Int32)), (.int (12271 : Int32)), (.int (12289 : Int32)), (.int (55295 : Int32)), (.int (63744 : Int32)), (.int (0 : Int32)), (.int (0 : Int32)), (.int (0 : Int32)), (.int (0 : Int32)), (.int (0 : Int32)), (.int (0 : Int32)), (.int (0 : Int32)), (.int (0 : Int32))]) e33 F33 (by decide) (Nat.le_of_ble_eq_true rfl) rfl at_213 rfl ?_
  intro T34 h34 X34 e34 W34 F34
  have N34 := Fr.snoc X34 N33 ge1
  have Ol34 := Ol33.wr W34 ge1
  refine g_dup X34 K (q := 215) at_214 rfl rfl ?_
  refine g_bipush X34 K (q := 217) (v := (33 : Int32)) at_215 (by decide) rfl ?_
  refine g_ldc X34 K (q := 219) (w3 H) at_217 rfl ?_
  refine g_iast X34 K (q := 220) (vs' := [(.int (0 : Int32)), (.int (58 : Int32)), (.int (45 : Int32)), (.int (46 : Int32)), (.int (47 : Int32)), (.int (48 : Int32)), (.int (57 : Int32)), (.int (65 : Int32)), (.int (90 : Int32)), (.int (95 : Int32)), (.int (97 : Int32)), (.int (122 : Int32)), (.int (183 : Int32)), (.int (192 : Int32)), (.int (215 : Int32)), (.int (247 : Int32)), (.int (767 : Int32)), (.int (768 : Int32)), (.int (879 : Int32)), (.int (880 : Int32)), (.int (894 : Int32)), (.int (8191 : Int32)), (.int (8204 : Int32)), (.int (8205 : Int32)), (.int (8255 : Int32)), (.int (8256 : Int32)), (.int (8304 : Int32)), (.int (8591 : Int32)), (.int (11264 : Int32)), (.int (12271 : Int32)), (.int (12289 : Int32)), (.int (55295 : Int32)), (.int (63744 : Int32)), (.int (64975 : Int32)), (.int (0 : Int32)), (.int (0 : Int32)), (.int (0 : Int32)), (.int (0 : Int32)), (.int (0 : Int32)), (.int (0 : Int32)), (.int (0 : Int32))]) e34 F34 (by decide) (Nat.le_of_ble_eq_true rfl) rfl at_219 rfl ?_
  intro T35 h35 X35 e35 W35 F35
  have N35 := Fr.snoc X35 N34 ge1
  have Ol35 := Ol34.wr W35 ge1
  refine g_dup X35 K (q := 221) at_220 rfl rfl ?_
  refine g_bipush X35 K (q := 223) (v := (34 : Int32)) at_221 (by decide) rfl ?_
  refine g_ldc X35 K (q := 225) (w4 H) at_223 rfl ?_
  refine g_iast X35 K (q := 226) (vs' := [(.int (0 : Int32)), (.int (58 : Int32)), (.int (45 : Int32)), (.int (46 : Int32)), (.int (47 : Int32)), (.int (48 : Int32)), (.int (57 : Int32)), (.int (65 : Int32)), (.int (90 : Int32)), (.int (95 : Int32)), (.int (97 : Int32)), (.int (122 : Int32)), (.int (183 : Int32)), (.int (192 : Int32)), (.int (215 : Int32)), (.int (247 : Int32)), (.int (767 : Int32)), (.int (768 : Int32)), (.int (879 : Int32)), (.int (880 : Int32)), (.int (894 : Int32)), (.int (8191 : Int32)), (.int (8204 : Int32)), (.int (8205 : Int32)), (.int (8255 : Int32)), (.int (8256 : Int32)), (.int (8304 : Int32)), (.int (8591 : Int32)), (.int (11264 : Int32)), (.int (12271 : Int32)), (.int (12289 : Int32)), (.int (55295 : Int32)), (.int (63744 : Int32)), (.int (64975 : Int32)), (.int (65008 : Int32)), (.int (0 : Int32)), (.int (0 : Int32)), (.int (0 : Int32)), (.int (0 : Int32)), (.int (0 : Int32)), (.int (0 : Int32))]) e35 F35 (by decide) (Nat.le_of_ble_eq_true rfl) rfl at_225 rfl ?_
  intro T36 h36 X36 e36 W36 F36
  have N36 := Fr.snoc X36 N35 ge1
  have Ol36 := Ol35.wr W36 ge1
  refine g_dup X36 K (q := 227) at_226 rfl rfl ?_
  refine g_bipush X36 K (q := 229) (v := (35 : Int32)) at_227 (by decide) rfl ?_
  refine g_ldc X36 K (q := 231) (w5 H) at_229 rfl ?_
  refine g_iast X36 K (q := 232) (vs' := [(.int (0 : Int32)), (.int (58 : Int32)), (.int (45 : Int32)), (.int (46 : Int32)), (.int (47 : Int32)), (.int (48 : Int32)), (.int (57 : Int32)), (.int (65 : Int32)), (.int (90 : Int32)), (.int (95 : Int32)), (.int (97 : Int32)), (.int (122 : Int32)), (.int (183 : Int32)), (.int (192 : Int32)), (.int (215 : Int32)), (.int (247 : Int32)), (.int (767 : Int32)), (.int (768 : Int32)), (.int (879 : Int32)), (.int (880 : Int32)), (.int (894 : Int32)), (.int (8191 : Int32)), (.int (8204 : Int32)), (.int (8205 : Int32)), (.int (8255 : Int32)), (.int (8256 : Int32)), (.int (8304 : Int32)), (.int (8591 : Int32)), (.int (11264 : Int32)), (.int (12271 : Int32)), (.int (12289 : Int32)), (.int (55295 : Int32)), (.int (63744 : Int32)), (.int (64975 : Int32)), (.int (65008 : Int32)), (.int (65533 : Int32)), (.int (0 : Int32)), (.int (0 : Int32)), (.int (0 : Int32)), (.int (0 : Int32)), (.int (0 : Int32))]) e36 F36 (by decide) (Nat.le_of_ble_eq_true rfl) rfl at_231 rfl ?_
  intro T37 h37 X37 e37 W37 F37
  have N37 := Fr.snoc X37 N36 ge1
  have Ol37 := Ol36.wr W37 ge1
  refine g_dup X37 K (q := 233) at_232 rfl rfl ?_
  refine g_bipush X37 K (q := 235) (v := (36 : Int32)) at_233 (by decide) rfl ?_
  refine g_ldc X37 K (q := 237) (w6 H) at_235 rfl ?_
  refine g_iast X37 K (q := 238) (vs' := [(.int (0 : Int32)), (.int (58 : Int32)), (.int (45 : Int32)), (.int (46 : Int32)), (.int (47 : Int32)), (.int (48 : Int32)), (.int (57 : Int32)), (.int (65 : Int32)), (.int (90 : Int32)), (.int (95 : Int32)), (.int (97 : Int32)), (.int (122 : Int32)), (.int (183 : Int32)), (.int (192 : Int32)), (.int (215 : Int32)), (.int (247 : Int32)), (.int (767 : Int32)), (.int (768 : Int32)), (.int (879 : Int32)), (.int (880 : Int32)), (.int (894 : Int32)), (.int (8191 : Int32)), (.int (8204 : Int32)), (.int (8205 : Int32)), (.int (8255 : Int32)), (.int (8256 : Int32)), (.int (8304 : Int32)), (.int (8591 : Int32)), (.int (11264 : Int32)), (.int (12271 : Int32)), (.int (12289 : Int32)), (.int (55295 : Int32)), (.int (63744 : Int32)), (.int (64975 : Int32)), (.int (65008 : Int32)), (.int (65533 : Int32)), (.int (65536 : Int32)), (.int (0 : Int32)), (.int (0 : Int32)), (.int (0 : Int32)), (.int (0 : Int32))]) e37 F37 (by decide) (Nat.le_of_ble_eq_true rfl) rfl at_237 rfl ?_
  intro T38 h38 X38 e38 W38 F38
  have N38 := Fr.snoc X38 N37 ge1
  have Ol38 := Ol37.wr W38 ge1
  refine g_dup X38 K (q := 239) at_238 rfl rfl ?_
  refine g_bipush X38 K (q := 241) (v := (37 : Int32)) at_239 (by decide) rfl ?_
  refine g_ldc X38 K (q := 243) (w7 H) at_241 rfl ?_
  refine g_iast X38 K (q := 244) (vs' := [(.int (0 : Int32)), (.int (58 : Int32)), (.int (45 : Int32)), (.int (46 : Int32)), (.int (47 : Int32)), (.int (48 : Int32)), (.int (57 : Int32)), (.int (65 : Int32)), (.int (90 : Int32)), (.int (95 : Int32)), (.int (97 : Int32)), (.int (122 : Int32)), (.int (183 : Int32)), (.int (192 : Int32)), (.int (215 : Int32)), (.int (247 : Int32)), (.int (767 : Int32)), (.int (768 : Int32)), (.int (879 : Int32)), (.int (880 : Int32)), (.int (894 : Int32)), (.int (8191 : Int32)), (.int (8204 : Int32)), (.int (8205 : Int32)), (.int (8255 : Int32)), (.int (8256 : Int32)), (.int (8304 : Int32)), (.int (8591 : Int32)), (.int (11264 : Int32)), (.int (12271 : Int32)), (.int (12289 : Int32)), (.int (55295 : Int32)), (.int (63744 : Int32)), (.int (64975 : Int32)), (.int (65008 : Int32)), (.int (65533 : Int32)), (.int (65536 : Int32)), (.int (983039 : Int32)), (.int (0 : Int32)), (.int (0 : Int32)), (.int (0 : Int32))]) e38 F38 (by decide) (Nat.le_of_ble_eq_true rfl) rfl at_243 rfl ?_
  intro T39 h39 X39 e39 W39 F39
  have N39 := Fr.snoc X39 N38 ge1
  have Ol39 := Ol38.wr W39 ge1
  refine g_dup X39 K (q := 245) at_244 rfl rfl ?_
  refine g_bipush X39 K (q := 247) (v := (38 : Int32)) at_245 (by decide) rfl ?_
  refine g_iconst X39 K (q := 248) (v := (-1 : Int32)) at_247 (by decide) rfl ?_
  refine g_iast X39 K (q := 249) (vs' := [(.int (0 : Int32)), (.int (58 : Int32)), (.int (45 : Int32)), (.int (46 : Int32)), (.int (47 : Int32)), (.int (48 : Int32)), (.int (57 : Int32)), (.int (65 : Int32)), (.int (90 : Int32)), (.int (95 : Int32)), (.int (97 : Int32)), (.int (122 : Int32)), (.int (183 : Int32)), (.int (192 : Int32)), (.int (215 : Int32)), (.int (247 : Int32)), (.int (767 : Int32)), (.int (768 : Int32)), (.int (879 : Int32)), (.int (880 : Int32)), (.int (894 : Int32)), (.int (8191 : Int32)), (.int (8204 : Int32)), (.int (8205 : Int32)), (.int (8255 : Int32)), (.int (8256 : Int32)), (.int (8304 : Int32)), (.int (8591 : Int32)), (.int (11264 : Int32)), (.int (12271 : Int32)), (.int (12289 : Int32)), (.int (55295 : Int32)), (.int (63744 : Int32)), (.int (64975 : Int32)), (.int (65008 : Int32)), (.int (65533 : Int32)), (.int (65536 : Int32)), (.int (983039 : Int32)), (.int (-1 : Int32)), (.int (0 : Int32)), (.int (0 : Int32))]) e39 F39 (by decide) (Nat.le_of_ble_eq_true rfl) rfl at_248 rfl ?_
  intro T40 h40 X40 e40 W40 F40
  have N40 := Fr.snoc X40 N39 ge1
  have Ol40 := Ol39.wr W40 ge1
  refine g_dup X40 K (q := 250) at_249 rfl rfl ?_
  refine g_bipush X40 K (q := 252) (v := (39 : Int32)) at_250 (by decide) rfl ?_
  refine g_ldc X40 K (q := 254) (w8 H) at_252 rfl ?_
  refine g_iast X40 K (q := 255) (vs' := [(.int (0 : Int32)), (.int (58 : Int32)), (.int (45 : Int32)), (.int (46 : Int32)), (.int (47 : Int32)), (.int (48 : Int32)), (.int (57 : Int32)), (.int (65 : Int32)), (.int (90 : Int32)), (.int (95 : Int32)), (.int (97 : Int32)), (.int (122 : Int32)), (.int (183 : Int32)), (.int (192 : Int32)), (.int (215 : Int32)), (.int (247 : Int32)), (.int (767 : Int32)), (.int (768 : Int32)), (.int (879 : Int32)), (.int (880 : Int32)), (.int (894 : Int32)), (.int (8191 : Int32)), (.int (8204 : Int32)), (.int (8205 : Int32)), (.int (8255 : Int32)), (.int (8256 : Int32)), (.int (8304 : Int32)), (.int (8591 : Int32)), (.int (11264 : Int32)), (.int (12271 : Int32)), (.int (12289 : Int32)), (.int (55295 : Int32)), (.int (63744 : Int32)), (.int (64975 : Int32)), (.int (65008 : Int32)), (.int (65533 : Int32)), (.int (65536 : Int32)), (.int (983039 : Int32)), (.int (-1 : Int32)), (.int (-2147483648 : Int32)), (.int (0 : Int32))]) e40 F40 (by decide) (Nat.le_of_ble_eq_true rfl) rfl at_254 rfl ?_
  intro T41 h41 X41 e41 W41 F41
  have N41 := Fr.snoc X41 N40 ge1
  have Ol41 := Ol40.wr W41 ge1
  refine g_dup X41 K (q := 256) at_255 rfl rfl ?_
  refine g_bipush X41 K (q := 258) (v := (40 : Int32)) at_256 (by decide) rfl ?_
  refine g_ldc X41 K (q := 260) (w9 H) at_258 rfl ?_
  refine g_iast X41 K (q := 261) (vs' := [(.int (0 : Int32)), (.int (58 : Int32)), (.int (45 : Int32)), (.int (46 : Int32)), (.int (47 : Int32)), (.int (48 : Int32)), (.int (57 : Int32)), (.int (65 : Int32)), (.int (90 : Int32)), (.int (95 : Int32)), (.int (97 : Int32)), (.int (122 : Int32)), (.int (183 : Int32)), (.int (192 : Int32)), (.int (215 : Int32)), (.int (247 : Int32)), (.int (767 : Int32)), (.int (768 : Int32)), (.int (879 : Int32)), (.int (880 : Int32)), (.int (894 : Int32)), (.int (8191 : Int32)), (.int (8204 : Int32)), (.int (8205 : Int32)), (.int (8255 : Int32)), (.int (8256 : Int32)), (.int (8304 : Int32)), (.int (8591 : Int32)), (.int (11264 : Int32)), (.int (12271 : Int32)), (.int (12289 : Int32)), (.int (55295 : Int32)), (.int (63744 : Int32)), (.int (64975 : Int32)), (.int (65008 : Int32)), (.int (65533 : Int32)), (.int (65536 : Int32)), (.int (983039 : Int32)), (.int (-1 : Int32)), (.int (-2147483648 : Int32)), (.int (2147483647 : Int32))]) e41 F41 (by decide) (Nat.le_of_ble_eq_true rfl) rfl at_260 rfl ?_
  intro T42 h42 X42 e42 W42 F42
  have N42 := Fr.snoc X42 N41 ge1
  have Ol42 := Ol41.wr W42 ge1
  refine g_astore X42 K (q := 263) (L' := #[.val (.int p0), .val (.int p1), .val (.int p2), .val (.int p3), .val (.ref b1), .unset, .unset, .unset, .unset, .unset]) at_261 rfl rfl rfl ?_
  refine g_aload X42 K (q := 265) at_263 rfl rfl rfl ?_
  refine g_iloadN X42 K (q := 266) at_265 rfl rfl ?_
  refine g_ldc X42 K (q := 268) (w9 H) at_266 rfl ?_
  refine g_iand X42 K (q := 269) at_268 rfl rfl ?_
  refine g_aload X42 K (q := 271) at_269 rfl rfl rfl ?_
  refine g_len X42 K (q := 272) e42 F42 at_271 rfl ?_
  have hix := own_rem p1 (n := (41 : Int32)) (k := 41) (by decide) (by decide)
  obtain ⟨ix, hxx⟩ : ∃ z, (p1 &&& (2147483647 : Int32)) % (41 : Int32) = z := ⟨_, rfl⟩
  rw [hxx] at hix
  refine g_irem X42 K (q := 273) (z := ix) at_272 (by decide) hxx rfl ?_
  have hin : ¬ ix < 0 ∧ ix < (41 : Int32) := ⟨own_nltI (m := 0) rfl (by omega), own_ltI (m := 41) rfl (by omega)⟩
  obtain ⟨mk, hmk⟩ := arv_int F42 hin
  refine g_iald X42 K (q := 274) (v := (.int mk)) e42 F42 hin hmk at_273 rfl ?_
  refine g_iloadN X42 K (q := 275) at_274 rfl rfl ?_
  refine g_iconst X42 K (q := 276) (v := (3 : Int32)) at_275 (by decide) rfl ?_
  refine g_iand X42 K (q := 277) at_276 rfl rfl ?_
  refine g_iconst X42 K (q := 278) (v := (1 : Int32)) at_277 (by decide) rfl ?_
  refine g_isub X42 K (q := 279) at_278 rfl rfl ?_
  obtain ⟨bb, hbb⟩ : ∃ z, mk + ((p2 &&& (3 : Int32)) - (1 : Int32)) = z := ⟨_, rfl⟩
  refine g_iadd X42 K (q := 280) (z := bb) at_279 hbb rfl ?_
  refine g_istore X42 K (q := 282) (L' := #[.val (.int p0), .val (.int p1), .val (.int p2), .val (.int p3), .val (.ref b1), .val (.int bb), .unset, .unset, .unset, .unset]) at_280 rfl rfl ?_
  refine g_iloadN X42 K (q := 283) at_282 rfl rfl ?_
  refine g_ldc X42 K (q := 285) (w9 H) at_283 rfl ?_
  refine g_iand X42 K (q := 286) at_285 rfl rfl ?_
  refine g_ldc X42 K (q := 288) (w10 H) at_286 rfl ?_
  obtain ⟨uu, huu⟩ : ∃ z, (p3 &&& (2147483647 : Int32)) % (1114112 : Int32) = z := ⟨_, rfl⟩
  refine g_irem X42 K (q := 289) (z := uu) at_288 (by decide) huu rfl ?_
  refine g_istore X42 K (q := 291) (L' := #[.val (.int p0), .val (.int p1), .val (.int p2), .val (.int p3), .val (.ref b1), .val (.int bb), .val (.int uu), .unset, .unset, .unset]) at_289 rfl rfl ?_
  refine g_iloadN X42 K (q := 292) at_291 rfl rfl ?_
  refine g_static X42 K (q := 295) (W := 0) (w11 H) (w12 H) (w13 H) (w14 H) (by decide) (rm1_2 l H p0 h42 Ol42) e42 rfl (argsL := [(.int p0)]) (rest := []) (lenOf pd_1 rfl) rfl rfl (Nat.le_of_eq rfl) at_292 (by decide) (by decide) (by decide) (by decide) rfl ?_
  rintro T43 v43 L43 X43 ⟨rfl, N43q, e43⟩
  have N43 := Fr.app N42 N43q
  show Go p e below _ T43 (mkF m 295 #[.val (.int p0), .val (.int p1), .val (.int p2), .val (.int p3), .val (.ref b1), .val (.int bb), .val (.int uu), .unset, .unset, .unset] [(.int (nameB p0))])
  refine g_iloadN X43 K (q := 296) at_295 rfl rfl ?_
  refine g_static X43 K (q := 299) (W := 1) (w22 H) (w23 H) (w24 H) (w25 H) (by decide) (rm3_3 l H p0 h42 Ol42) e43 rfl (argsL := [(.int p0)]) (rest := [(.int (nameB p0))]) (lenOf pd_1 rfl) rfl rfl (Nat.le_of_eq rfl) at_296 (by decide) (by decide) (by decide) (by decide) rfl ?_
  rintro T44 v44 L44 X44 ⟨rfl, N44q, e44⟩
  have N44 := Fr.app N43 N44q
  show Go p e below _ T44 (mkF m 299 #[.val (.int p0), .val (.int p1), .val (.int p2), .val (.int p3), .val (.ref b1), .val (.int bb), .val (.int uu), .unset, .unset, .unset] [(.int (nameB p0)), (.int (nameB p0))])
  refine g_icN X44 K (q := 302) at_299 (teq rfl).2 rfl ?_
  refine g_iconst X44 K (q := 303) (v := (1 : Int32)) at_302 (by decide) rfl ?_
  refine g_goto X44 K (q := 307) at_303 (by decide) (by decide) ?_
  refine g_istore X44 K (q := 309) (L' := #[.val (.int p0), .val (.int p1), .val (.int p2), .val (.int p3), .val (.ref b1), .val (.int bb), .val (.int uu), .val (.int (1 : Int32)), .unset, .unset]) at_307 rfl rfl ?_
  refine g_iload X44 K (q := 311) at_309 rfl rfl ?_
  refine g_static X44 K (q := 314) (W := 0) (w11 H) (w12 H) (w13 H) (w14 H) (by decide) (rm1_2 l H bb h42 Ol42) e44 rfl (argsL := [(.int bb)]) (rest := []) (lenOf pd_1 rfl) rfl rfl (Nat.le_of_eq rfl) at_311 (by decide) (by decide) (by decide) (by decide) rfl ?_
  rintro T45 v45 L45 X45 ⟨rfl, N45q, e45⟩
  have N45 := Fr.app N44 N45q
  show Go p e below _ T45 (mkF m 314 #[.val (.int p0), .val (.int p1), .val (.int p2), .val (.int p3), .val (.ref b1), .val (.int bb), .val (.int uu), .val (.int (1 : Int32)), .unset, .unset] [(.int (nameB bb))])
  refine g_iload X45 K (q := 316) at_314 rfl rfl ?_
  refine g_static X45 K (q := 319) (W := 1) (w22 H) (w23 H) (w24 H) (w25 H) (by decide) (rm3_3 l H bb h42 Ol42) e45 rfl (argsL := [(.int bb)]) (rest := [(.int (nameB bb))]) (lenOf pd_1 rfl) rfl rfl (Nat.le_of_eq rfl) at_316 (by decide) (by decide) (by decide) (by decide) rfl ?_
  rintro T46 v46 L46 X46 ⟨rfl, N46q, e46⟩
  have N46 := Fr.app N45 N46q
  show Go p e below _ T46 (mkF m 319 #[.val (.int p0), .val (.int p1), .val (.int p2), .val (.int p3), .val (.ref b1), .val (.int bb), .val (.int uu), .val (.int (1 : Int32)), .unset, .unset] [(.int (nameB bb)), (.int (nameB bb))])
  refine g_icN X46 K (q := 322) at_319 (teq rfl).2 rfl ?_
  refine g_iconst X46 K (q := 323) (v := (1 : Int32)) at_322 (by decide) rfl ?_
  refine g_goto X46 K (q := 327) at_323 (by decide) (by decide) ?_
  refine g_istore X46 K (q := 329) (L' := #[.val (.int p0), .val (.int p1), .val (.int p2), .val (.int p3), .val (.ref b1), .val (.int bb), .val (.int uu), .val (.int (1 : Int32)), .val (.int (1 : Int32)), .unset]) at_327 rfl rfl ?_
  refine g_iload X46 K (q := 331) at_329 rfl rfl ?_
  refine g_static X46 K (q := 334) (W := 0) (w11 H) (w12 H) (w13 H) (w14 H) (by decide) (rm1_2 l H uu h42 Ol42) e46 rfl (argsL := [(.int uu)]) (rest := []) (lenOf pd_1 rfl) rfl rfl (Nat.le_of_eq rfl) at_331 (by decide) (by decide) (by decide) (by decide) rfl ?_
  rintro T47 v47 L47 X47 ⟨rfl, N47q, e47⟩
  have N47 := Fr.app N46 N47q
  show Go p e below _ T47 (mkF m 334 #[.val (.int p0), .val (.int p1), .val (.int p2), .val (.int p3), .val (.ref b1), .val (.int bb), .val (.int uu), .val (.int (1 : Int32)), .val (.int (1 : Int32)), .unset] [(.int (nameB uu))])
  refine g_iload X47 K (q := 336) at_334 rfl rfl ?_
  refine g_static X47 K (q := 339) (W := 1) (w22 H) (w23 H) (w24 H) (w25 H) (by decide) (rm3_3 l H uu h42 Ol42) e47 rfl (argsL := [(.int uu)]) (rest := [(.int (nameB uu))]) (lenOf pd_1 rfl) rfl rfl (Nat.le_of_eq rfl) at_336 (by decide) (by decide) (by decide) (by decide) rfl ?_
  rintro T48 v48 L48 X48 ⟨rfl, N48q, e48⟩
  have N48 := Fr.app N47 N48q
  show Go p e below _ T48 (mkF m 339 #[.val (.int p0), .val (.int p1), .val (.int p2), .val (.int p3), .val (.ref b1), .val (.int bb), .val (.int uu), .val (.int (1 : Int32)), .val (.int (1 : Int32)), .unset] [(.int (nameB uu)), (.int (nameB uu))])
  refine g_icN X48 K (q := 342) at_339 (teq rfl).2 rfl ?_
  refine g_iconst X48 K (q := 343) (v := (1 : Int32)) at_342 (by decide) rfl ?_
  refine g_goto X48 K (q := 347) at_343 (by decide) (by decide) ?_
  refine g_istore X48 K (q := 349) (L' := #[.val (.int p0), .val (.int p1), .val (.int p2), .val (.int p3), .val (.ref b1), .val (.int bb), .val (.int uu), .val (.int (1 : Int32)), .val (.int (1 : Int32)), .val (.int (1 : Int32))]) at_347 rfl rfl ?_
  refine g_iload X48 K (q := 351) at_349 rfl rfl ?_
  refine g_ifN X48 K (q := 354) at_351 (by decide) rfl ?_
  refine g_iload X48 K (q := 356) at_354 rfl rfl ?_
  refine g_ifN X48 K (q := 359) at_356 (by decide) rfl ?_
  refine g_iload X48 K (q := 361) at_359 rfl rfl ?_
  refine g_ifN X48 K (q := 364) at_361 (by decide) rfl ?_
  refine g_iconst X48 K (q := 365) (v := (1 : Int32)) at_364 (by decide) rfl ?_
  refine g_goto X48 K (q := 369) at_365 (by decide) (by decide) ?_
  refine g_nret X48 K (by simp) (z' := (1 : Int32)) (by decide) at_369 (by decide) (by decide) ?_
  exact ⟨rfl, N48⟩
set_option maxRecDepth 65536 in
set_option maxHeartbeats 40000000 in
theorem comes_1 {Post : Tables → Env → Array Value → State → Outcome → State → Prop} (hpost : ∀ tb e args s v u, (limb_1_1.after args s (.returned v) u = true ∧ limb_1_2.after args s (.returned v) u = true ∧ True) → FrameEnd s (.returned v) u (Jvm.fieldLocs frame_1_writes args s ++ Jvm.arrayLocs frame_1_arrays args s ++ Jvm.staticLocs frame_1_statics s) 16 192 → Post tb e args s (.returned v) u) :
    ArmFor flags0 classFile x code maxLocals ret World_1 tables_1 room_1 Calls_1 rest_1 Pre_1 Post := by
  intro l hfl _ _ p e ha hc hk s m args below hf hA hF happ hP
  obtain ⟨hcalls, hrest, hpre⟩ := hP
  obtain ⟨-, -, -, hnamed, -, -, -, hat⟩ := (Spec.applies_iff hf).mp happ
  obtain ⟨hg, hn⟩ := and_e (Cond.before_iff.mp (show (Jvm.Cond.and given_1 narrow_1).before args s = true from hpre))
  obtain ⟨g0, hg0⟩ := and_e hg
  obtain ⟨g1, hg1⟩ := and_e hg0
  obtain ⟨g2, hg2⟩ := and_e hg1
  obtain ⟨g3, hg3⟩ := and_e hg2
  have g4 := hg3
  obtain ⟨u0, u1, u2, u3, rfl⟩ : ∃ u0 u1 u2 u3 : Value, args = #[u0, u1, u2, u3] := by
    have hs : args.size = 4 := by simpa [Cond.value, given_1] using g0
    obtain ⟨L⟩ := args
    match L, hs with
    | [u0, u1, u2, u3], _ => exact ⟨u0, u1, u2, u3, rfl⟩
  have hw := fun d (hd : d ∈ tables_1) => atoms_spec (ws := Jvm.Cond.code x code maxLocals ret :: tables_1) hat d (List.mem_cons_of_mem _ hd)
  have hfit : Fit s := fun {y c} hc i hi => by
    obtain ⟨ha, rfl⟩ := Array.getElem?_eq_some_iff.mp hc
    have q := List.all_eq_true.mp ((Array.all_eq_true_iff_forall_mem.mp hF) _ (Array.getElem_mem ha)) i (List.mem_range.mpr hi)
    simpa [Array.getElem?_eq_getElem hi] using q
  obtain ⟨i0, ei0⟩ := is_v g1
  obtain rfl : u0 = (.int i0) := Option.some.inj ei0
  obtain ⟨i1, ei1⟩ := is_v g2
  obtain rfl : u1 = (.int i1) := Option.some.inj ei1
  obtain ⟨i2, ei2⟩ := is_v g3
  obtain rfl : u2 = (.int i2) := Option.some.inj ei2
  obtain ⟨i3, ei3⟩ := is_v g4
  obtain rfl : u3 = (.int i3) := Option.some.inj ei3
  obtain ⟨n, o, h1, h2, h3, _, L, rfl, ⟨rfl, N⟩, hq⟩ := rm0 l (Z := s) ⟨hw, hn, hfit⟩ i0 i1 i2 i3 s.heap (Old.start s) p e ha hc hk s m _ below hf ((Spec.applies_iff_loose hf).mp happ).1 ⟨rfl, State.Warmed39.refl s, rfl⟩ trivial
  refine ⟨n, _, h1, h2, h3, hpost _ _ _ _ _ _ ⟨Cond.after_iff.mpr rfl, Cond.after_iff.mpr (eq_i res_at (Term.int_eval (1)) rfl), trivial⟩ ⟨hq.1, hq.2.1, (hq.2.2.sift fun y hy => Or.inr (N y hy)).mono (by decide) (by decide)⟩⟩
theorem main_1_1 : Claimed_1_1 := comes_1 fun _ _ _ _ _ _ h hF => ⟨h.1, hF⟩
theorem main_1_2 : Claimed_1_2 := comes_1 fun _ _ _ _ _ _ h hF => ⟨h.2.1, hF⟩
end Jvm.Pilot.@@N@@
namespace Jvm.Pilot.@@N@@
open Jvm Jvm.ClassFile Sem Op Lib Jvm.Free Jvm.Stand Jvm.Pilot.@@N@@.Jvm.D
/-! MADE BY PROGRAM (witnessworld.py) out of the Statement's table words and the real class files: 9 classes; the members and pool entries that the words name. The judged class is class 1, her method 2. -/
namespace start1
open Jvm.ClassFile
def u (s : String) : CpInfo := .utf8 (stringToUtf16 s)
/-- a pool by its gaps: so many unusable entries, then the entry; so many at the end -/
def gap : Nat → List CpInfo → List CpInfo
  | 0, r => r
  | n + 1, r => .unusable :: gap n r
def poolList (es : List (Nat × CpInfo)) (last : Nat) : List CpInfo := es.foldr (fun e r => gap e.1 (e.2 :: r)) (gap last [])
def pool (es : List (Nat × CpInfo)) (last : Nat) : Array CpInfo := ⟨poolList es last⟩
def fileOf (pool : Array CpInfo) (this : Nat) (attrs : Array Attribute := #[]) (ms : Array MethodInfo := #[]) (fl : Nat := 33) (sup : Nat := 0) (ifs : Array Nat := #[]) (fds : Array FieldInfo := #[]) : ClassFile where
  minorVersion := 0
  majorVersion := 65
  constantPool := pool
  accessFlags := fl
  thisClass := this
  superClass := sup
  interfaces := ifs
  fields := fds
  methods := ms
  attributes := attrs
def plain (name : String) (sup : Option ClassId) : Class where
  name := name
  kind := .ordinary
  loader := none
  accessFlags := 33
  super := sup
  interfaces := #[]
  cf := none
  fields := #[]
  methods := #[]
  instanceTypes := #[]
  staticTypes := #[]
  resolved := #[]
  callSites := []
  init := .initialized
  statics := none
  mirror := none

def pool0 : Array CpInfo := pool [(5, u "<init>"), (0, u "()V"), (1, .class_ 10), (1, u "java/lang/Object")] 113

def k0m0 : Method := { name := "<init>", desc := "()V", sig := { parameters := [], returnType := none }, accessFlags := 1, code := none }
/-- java/lang/Object -/
def k0 : Class := { plain "java/lang/Object" none with
  accessFlags := 33
  interfaces := #[]
  cf := some (fileOf pool0 8 #[] #[{ accessFlags := 1, nameIndex := 5, descriptorIndex := 6, attributes := #[] }] 33 0 #[] #[])
  fields := #[]
  methods := #[k0m0]
  instanceTypes := #[]
  staticTypes := #[]
  resolved := Array.replicate 124 none
  statics := none }

def pool1 : Array CpInfo := pool [(2, .class_ 4), (1, u "java/lang/Object"), (0, u "<init>"), (0, u "()V"), (0, .integer 65536), (0, .integer 55295), (0, .integer 63744), (0, .integer 64975), (0, .integer 65008), (0, .integer 65533), (0, .integer 983039), (2, .integer 2147483648), (0, .integer 2147483647), (0, .integer 1114112), (0, .methodref 20 21), (0, .class_ 22), (0, .nameAndType 23 24), (0, u "com/example/annotable/annotable/XmlNames"), (0, u "isNameChar"), (0, u "(I)Z"), (0, .methodref 26 27), (0, .class_ 28), (0, .nameAndType 29 24), (0, u "com/example/annotable/annotable/XmlNamesIsNameCharPinLaw"), (0, u "ref"), (3, u "law"), (0, u "(IIII)Z")] 4

def k1m0 : Method := { name := "<init>", desc := "()V", sig := { parameters := [], returnType := none }, accessFlags := 2, code := none }
def k1c1 : Code := { maxStack := 2, maxLocals := 1, code := method_2_code, exceptionTable := #[], attributes := #[] }
def k1m1 : Method := { name := "ref", desc := "(I)Z", sig := { parameters := [.int], returnType := some .boolean }, accessFlags := 10, code := some k1c1 }
def k1c2 : Code := { maxStack := 4, maxLocals := 10, code := code, exceptionTable := #[], attributes := #[] }
def k1m2 : Method := { name := "law", desc := "(IIII)Z", sig := { parameters := [.int, .int, .int, .int], returnType := some .boolean }, accessFlags := 9, code := some k1c2 }
/-- com/example/annotable/annotable/XmlNamesIsNameCharPinLaw -/
def k1 : Class := { plain "com/example/annotable/annotable/XmlNamesIsNameCharPinLaw" (some 0) with
  accessFlags := 49
  interfaces := #[]
  cf := some (fileOf pool1 26 #[] #[{ accessFlags := 2, nameIndex := 5, descriptorIndex := 6, attributes := #[] }, { accessFlags := 10, nameIndex := 29, descriptorIndex := 24, attributes := #[] }, { accessFlags := 9, nameIndex := 33, descriptorIndex := 34, attributes := #[] }] 49 2 #[] #[])
  fields := #[]
  methods := #[k1m0, k1m1, k1m2]
  instanceTypes := #[]
  staticTypes := #[]
  resolved := Array.replicate 39 none
  statics := none }

def pool2 : Array CpInfo := pool [(2, .class_ 4), (1, u "java/lang/Object"), (0, u "<init>"), (0, u "()V"), (0, .fieldref 8 9), (0, .class_ 10), (0, .nameAndType 11 12), (0, u "com/example/annotable/annotable/XmlNames"), (0, u "START"), (0, u "[I"), (0, .methodref 8 14), (0, .nameAndType 15 16), (0, u "in"), (0, u "([II)Z"), (0, .fieldref 8 18), (0, .nameAndType 19 12), (0, u "LATER"), (13, u "(I)Z"), (65, u "isNameChar")] 47

def k2m0 : Method := { name := "<init>", desc := "()V", sig := { parameters := [], returnType := none }, accessFlags := 2, code := none }
def k2c1 : Code := { maxStack := 2, maxLocals := 1, code := prog_49_method_3_code, exceptionTable := #[], attributes := #[] }
def k2m1 : Method := { name := "isNameChar", desc := "(I)Z", sig := { parameters := [.int], returnType := some .boolean }, accessFlags := 8, code := some k2c1 }
def k2c2 : Code := { maxStack := 4, maxLocals := 3, code := prog_49_method_9_code, exceptionTable := #[], attributes := #[] }
def k2m2 : Method := { name := "in", desc := "([II)Z", sig := { parameters := [(.array .int), .int], returnType := some .boolean }, accessFlags := 10, code := some k2c2 }
/-- com/example/annotable/annotable/XmlNames -/
def k2 : Class := { plain "com/example/annotable/annotable/XmlNames" (some 0) with
  accessFlags := 32
  interfaces := #[]
  cf := some (fileOf pool2 8 #[] #[{ accessFlags := 2, nameIndex := 5, descriptorIndex := 6, attributes := #[] }, { accessFlags := 8, nameIndex := 99, descriptorIndex := 33, attributes := #[] }, { accessFlags := 10, nameIndex := 15, descriptorIndex := 16, attributes := #[] }] 32 2 #[] #[{ accessFlags := 26, nameIndex := 11, descriptorIndex := 12, attributes := #[] }, { accessFlags := 26, nameIndex := 19, descriptorIndex := 12, attributes := #[] }])
  fields := #[{ name := "START", type := (.array .int), accessFlags := 26, slot := 0, constantValue := 0 }, { name := "LATER", type := (.array .int), accessFlags := 26, slot := 1, constantValue := 0 }]
  methods := #[k2m0, k2m1, k2m2]
  instanceTypes := #[]
  staticTypes := #[(.array .int), (.array .int)]
  resolved := Array.replicate 147 none
  statics := some 0 }

def pool3 : Array CpInfo := pool [(1, u "java/lang/Cloneable"), (0, .class_ 1), (0, u "java/lang/Object"), (0, .class_ 3)] 3

/-- java/lang/Cloneable -/
def k3 : Class := { plain "java/lang/Cloneable" (some 0) with
  accessFlags := 1537
  interfaces := #[]
  cf := some (fileOf pool3 2 #[] #[] 1537 4 #[] #[])
  fields := #[]
  methods := #[]
  instanceTypes := #[]
  staticTypes := #[]
  resolved := Array.replicate 8 none
  statics := none }

def pool4 : Array CpInfo := pool [(1, u "java/io/Serializable"), (0, .class_ 1), (0, u "java/lang/Object"), (0, .class_ 3)] 3

/-- java/io/Serializable -/
def k4 : Class := { plain "java/io/Serializable" (some 0) with
  accessFlags := 1537
  interfaces := #[]
  cf := some (fileOf pool4 2 #[] #[] 1537 4 #[] #[])
  fields := #[]
  methods := #[]
  instanceTypes := #[]
  staticTypes := #[]
  resolved := Array.replicate 8 none
  statics := none }

/-- the primitive byte -/
def k5 : Class := { plain "byte" none with kind := .primitive 'B', accessFlags := 0x411 }
/-- [B -/
def k6 : Class := { plain "[B" (some 0) with kind := .array 5 .byte, interfaces := #[3, 4], accessFlags := 1041 }

/-- the primitive int -/
def k7 : Class := { plain "int" none with kind := .primitive 'I', accessFlags := 0x411 }
/-- [I -/
def k8 : Class := { plain "[I" (some 0) with kind := .array 7 .int, interfaces := #[3, 4], accessFlags := 1041 }

def heap : Heap := #[{ cls := 2, slots := #[.ref 1, .ref 2], vm := .statics 2 },
  { cls := 8, slots := #[.int 65, .int 90, .int 95, .int 95, .int 97, .int 122, .int 192, .int 214, .int 216, .int 246, .int 248, .int 767, .int 880, .int 893, .int 895, .int 8191, .int 8204, .int 8205, .int 8304, .int 8591, .int 11264, .int 12271, .int 12289, .int 55295, .int 63744, .int 64975, .int 65008, .int 65533, .int 65536, .int 983039], vm := .none },
  { cls := 8, slots := #[.int 45, .int 46, .int 48, .int 57, .int 183, .int 183, .int 768, .int 879, .int 8255, .int 8256], vm := .none }]
def classes : Array Class := #[k0, k1, k2, k3, k4, k5, k6, k7, k8]
def interned : List (Array UInt16 × Addr) := []
def slotsUsed : Nat := 42
def theMethod : MethodId := ⟨1, 2⟩
def args0 : Array Value := #[.int 66, .int 3, .int 1, .int 70]
def aboutOver (below : List Frame) : State where
  vm := { classes := classes, interned := interned.toArray }
  heap := heap
  slotsUsed := slotsUsed
  threads := #[{ frames := .invoking theMethod args0 :: below }]
def below0 : List Frame := [.native { method := ⟨0, 0⟩, args := #[] }]
def about1 : State := aboutOver below0
def p0 : Program := .bare "" "" ""
def e0 : Env := launch0.env 0 0 0
theorem w_frames : about1.frames = Frame.invoking theMethod args0 :: below0 := rfl
set_option maxRecDepth 65536 in
theorem w_args : argsFit about1.vm theMethod args0 = true := by decide +kernel
set_option maxRecDepth 65536 in
theorem w_heap : heapFits about1 = true := by decide +kernel
set_option maxRecDepth 65536 in
theorem w_runnable : about1.curStatus? = some .runnable := by decide +kernel
set_option maxRecDepth 65536 in
theorem w_alone : about1.alone = true := by decide +kernel
set_option maxRecDepth 65536 in
theorem w_named : about1.methodNamed? x = some theMethod := by decide +kernel
set_option maxRecDepth 65536 in
theorem w_hears : about1.hears theMethod below0 = true := by decide +kernel
set_option maxRecDepth 65536 in
theorem w_ripe : about1.ripe theMethod args0 below0 = true := by decide +kernel
theorem w_running : about1.status = .running := rfl
set_option maxRecDepth 65536 in
theorem w_room : about1.hasRoom e0.platform room_1 = true :=
  launch0.hasRoom_least _ room_1 (by decide +kernel) (by decide +kernel) (by decide +kernel) (by decide +kernel) (by decide +kernel) (by decide +kernel)
theorem allAtoms_all (ts : List Jvm.Cond) (a : Array Jvm.Value) (st : Jvm.State) : (allAtoms ts).before a st = ts.all (fun c => c.before a st) := by
  induction ts with
  | nil => rfl
  | cons c t ih =>
    show (Jvm.Cond.and c (allAtoms t)).before a st = _
    rw [Jvm.Cond.before_and, ih, List.all_cons]
def words1 : List Jvm.Cond := Jvm.Cond.code x code maxLocals ret :: tables_1
/-- a 'code' word, met by the world's own term for the bytes: nothing is compared byte by byte -/
theorem code_word {y : MethodName} {bytes : ByteArray} {mx : Nat} {rt : Option FieldType} {a : Array Value} {s : State} {m : MethodId} {meth : Method} {c : Code} (h1 : s.methodNamed? y = some m) (h2 : s.vm.method? m = some meth) (h3 : meth.code = some c) (h4 : c.code = bytes)
    (h5 : (c.maxLocals == mx && c.exceptionTable.isEmpty && decide (c.maxStack ≤ mostOperands) && decide (meth.sig.returnType = rt) && !meth.locks && decide (parseMethodDescriptor y.desc = some meth.sig)) = true) : (Jvm.Cond.code y bytes mx rt).before a s = true := by
  simp only [Bool.and_eq_true, beq_iff_eq, Bool.not_eq_true', decide_eq_true_eq] at h5
  obtain ⟨⟨⟨⟨⟨g1, g2⟩, g3⟩, g4⟩, g5⟩, g6⟩ := h5
  simp [Cond.before, Cond.holds, Cond.value, h1, h2, h3, h4, g1, g2, g3, g4, g5, g6]
def isCode : Jvm.Cond → Bool
  | .code _ _ _ _ => true
  | _ => false
theorem all_split {L : List Jvm.Cond} {P : Jvm.Cond → Bool} (h1 : L.all (fun c => isCode c || P c) = true) (h2 : ∀ c ∈ L.filter isCode, P c = true) : L.all P = true := by
  refine List.all_eq_true.mpr fun c hc => ?_
  have h := List.all_eq_true.mp h1 c hc
  rcases Bool.eq_false_or_eq_true (isCode c) with hi | hi
  · exact h2 c (List.mem_filter.mpr ⟨hc, hi⟩)
  · simpa [hi] using h
set_option maxRecDepth 65536 in
theorem w_c0 : (Jvm.Cond.code x code maxLocals ret).before args0 about1 = true := code_word (m := ⟨1, 2⟩) (meth := k1m2) (c := k1c2) (by decide +kernel) rfl rfl rfl (by decide +kernel)
set_option maxRecDepth 65536 in
theorem w_c1 : (Jvm.Cond.code ({ cls := "com/example/annotable/annotable/XmlNames", name := "isNameChar", desc := "(I)Z" } : Jvm.MethodName) prog_49_method_3_code (1 : Nat) (Option.some Jvm.ClassFile.FieldType.boolean)).before args0 about1 = true := code_word (m := ⟨2, 1⟩) (meth := k2m1) (c := k2c1) (by decide +kernel) rfl rfl rfl (by decide +kernel)
set_option maxRecDepth 65536 in
theorem w_c2 : (Jvm.Cond.code ({ cls := "com/example/annotable/annotable/XmlNames", name := "in", desc := "([II)Z" } : Jvm.MethodName) prog_49_method_9_code (3 : Nat) (Option.some Jvm.ClassFile.FieldType.boolean)).before args0 about1 = true := code_word (m := ⟨2, 2⟩) (meth := k2m2) (c := k2c2) (by decide +kernel) rfl rfl rfl (by decide +kernel)
set_option maxRecDepth 65536 in
theorem w_c3 : (Jvm.Cond.code ({ cls := "com/example/annotable/annotable/XmlNamesIsNameCharPinLaw", name := "ref", desc := "(I)Z" } : Jvm.MethodName) method_2_code (1 : Nat) (Option.some Jvm.ClassFile.FieldType.boolean)).before args0 about1 = true := code_word (m := ⟨1, 1⟩) (meth := k1m1) (c := k1c1) (by decide +kernel) rfl rfl rfl (by decide +kernel)
def codes1 : List Jvm.Cond := [Jvm.Cond.code x code maxLocals ret, Jvm.Cond.code ({ cls := "com/example/annotable/annotable/XmlNames", name := "isNameChar", desc := "(I)Z" } : Jvm.MethodName) prog_49_method_3_code (1 : Nat) (Option.some Jvm.ClassFile.FieldType.boolean), Jvm.Cond.code ({ cls := "com/example/annotable/annotable/XmlNames", name := "in", desc := "([II)Z" } : Jvm.MethodName) prog_49_method_9_code (3 : Nat) (Option.some Jvm.ClassFile.FieldType.boolean), Jvm.Cond.code ({ cls := "com/example/annotable/annotable/XmlNamesIsNameCharPinLaw", name := "ref", desc := "(I)Z" } : Jvm.MethodName) method_2_code (1 : Nat) (Option.some Jvm.ClassFile.FieldType.boolean)]
set_option maxRecDepth 65536 in
theorem codes_eq : words1.filter isCode = codes1 := rfl
theorem w_codes : ∀ c ∈ words1.filter isCode, c.before args0 about1 = true := by
  rw [codes_eq]
  intro c hc
  simp only [codes1, List.mem_cons, List.not_mem_nil, or_false] at hc
  rcases hc with rfl | rfl | rfl | rfl
  · exact w_c0
  · exact w_c1
  · exact w_c2
  · exact w_c3
set_option maxRecDepth 65536 in
theorem w_t1 : (words1.take 24).all (fun c => isCode c || c.before args0 about1) = true := by decide +kernel
set_option maxRecDepth 65536 in
theorem w_t2 : (words1.drop 24).all (fun c => isCode c || c.before args0 about1) = true := by decide +kernel
theorem w_tables : (allAtoms (Jvm.Cond.code x code maxLocals ret :: tables_1)).before args0 about1 = true := by
  rw [allAtoms_all]
  show words1.all (fun c => c.before args0 about1) = true
  refine all_split ?_ w_codes
  rw [← List.take_append_drop 24 words1, List.all_append, w_t1, w_t2]
  rfl
set_option maxRecDepth 65536 in
theorem w_case : (Jvm.Cond.and given_1 narrow_1).before args0 about1 = true := by decide +kernel
theorem w_applies : (headSpec (Jvm.Cond.code x code maxLocals ret :: tables_1) room_1).applies x e0.platform about1 = true :=
  (Spec.applies_iff w_frames).mpr ⟨w_running, w_runnable, w_alone, w_named, w_hears, w_ripe, w_room, w_tables⟩
theorem atStart : AtStart classFile x code maxLocals ret World_1 tables_1 room_1 Calls_1 rest_1 Pre_1 launch0 p0 e0 about1 theMethod args0 below0 :=
  ⟨lists_1, trivial, launch0.admits_env _ _ _, launch0.least_env, fairChoices_fair.cas, fairChoices_fair.clock, w_frames, w_args, w_heap, w_applies, trivial, trivial, w_case⟩
end start1
theorem witness_1 : WitnessClaimed_1 := ⟨start1.p0, start1.e0, start1.about1, start1.theMethod, start1.args0, start1.below0, start1.atStart⟩
end Jvm.Pilot.@@N@@
