import JvmDerived
import JvmDerived.Pilot.@@N@@Statement
import JvmDerived.Pilot.@@N@@Code
set_option linter.unusedVariables false
set_option linter.unusedSimpArgs false
namespace Jvm.OwnW
open Sem ClassFile Op Lib Jvm.Free Jvm.Stand Jvm.LawKit Jvm.RoadKit
/-- where a walk stands: the method's facts, the heap, nothing old written -/
def Pos (Z : State) (y : MethodName) (bytes : ByteArray) (maxL : Nat) (ret : Option FieldType) (n0 : Nat) (p : Program) (l : Launch) (e : Env) (R : Room) (s : State) (m : MethodId) (args : Array Value) (below : List Frame) (meth : Method) (c : Code) (T : State) (h : Heap) (cells slots : Nat) : Prop :=
  (p.tables.exec = Jvm.exec ∧ c.code = bytes ∧ c.maxLocals = maxL ∧ s.vm.findClass y.cls = some m.cls ∧ meth.name = y.name ∧ meth.sig.returnType = ret ∧ meth.locks = false ∧ Z.Warmed39 s.vm ∧ n0 ≤ s.heap.size) ∧
  ∃ locs, Stand p l e R s m args below meth c T locs cells slots ∧ T.heap = h ∧ Fr n0 locs
/-- the run from t comes to a return of which Q holds -/
def Goes (p : Program) (e : Env) (below : List Frame) (s : State) (n0 kc ks : Nat) (Q : Option Value → Heap → Prop) (t : State) : Prop :=
  ∃ s₂ o, Steps p.tables e below t s₂ ∧ s₂.status = .running ∧ Ended s₂ below o ∧ ∃ v L, o = .returned v ∧ (Q v s₂.heap ∧ Fr n0 L) ∧ FrameEnd s o s₂ L kc ks
/-- a method's contract: called with these arguments at the heap h0 it returns, and Q holds of the value and the heap -/
def Con (l : Launch) (Z : State) (y : MethodName) (bytes : ByteArray) (maxL : Nat) (ret : Option FieldType) (rm : Room) (n0 : Nat) (as : Array Value) (h0 : Heap) (Q : Option Value → Heap → Prop) : Prop :=
  ∀ ws : List Jvm.Cond, MetFree l y (head1 (Jvm.Cond.code y bytes maxL ret :: ws) rm) (fun a U => a = as ∧ Z.Warmed39 U.vm ∧ U.heap = h0) (fun _ _ _ _ _ => True) (fun _ U o U' => ∃ v L, o = .returned v ∧ (Q v U'.heap ∧ Fr n0 L) ∧ FrameEnd U o U' L rm.cells rm.slots)
section Base
variable {Z : State} {y : MethodName} {bytes : ByteArray} {maxL : Nat} {ret : Option FieldType} {n0 : Nat} {p : Program} {l : Launch} {e : Env} {R : Room} {s : State} {m : MethodId} {args : Array Value} {below : List Frame} {meth : Method} {c : Code} {T : State} {h : Heap} {cells slots kc ks : Nat} {Q : Option Value → Heap → Prop} {pc pc' pcY pcN : Nat} {L L' : Array Slot} {S : List Value} {a0 : Array Value}
theorem Goes.via {t t' : State} (k : ∀ target, Steps p.tables e below t' target → Steps p.tables e below t target) (G : Goes p e below s n0 kc ks Q t') : Goes p e below s n0 kc ks Q t := by
  obtain ⟨s₂, o, h1, r⟩ := G
  exact ⟨s₂, o, k _ h1, r⟩
theorem Goes.mono {Q' : Option Value → Heap → Prop} {t : State} (k : ∀ v h, Q' v h → Q v h) (G : Goes p e below s n0 kc ks Q' t) : Goes p e below s n0 kc ks Q t := by
  obtain ⟨s₂, o, h1, h2, h3, v, L, h4, ⟨h5, h6⟩, h7⟩ := G
  exact ⟨s₂, o, h1, h2, h3, v, L, h4, ⟨k _ _ h5, h6⟩, h7⟩
theorem Con.mono {rm : Room} {as : Array Value} {h0 : Heap} {Q' : Option Value → Heap → Prop} (K : Con l Z y bytes maxL ret rm n0 as h0 Q') (k : ∀ v h, Q' v h → Q v h) : Con l Z y bytes maxL ret rm n0 as h0 Q := by
  intro ws p e ha hc hk s m args below hf happ hP hK
  obtain ⟨n, o, h1, h2, h3, v, L, h4, ⟨h5, h6⟩, h7⟩ := K ws p e ha hc hk s m args below hf happ hP hK
  exact ⟨n, o, h1, h2, h3, v, L, h4, ⟨k _ _ h5, h6⟩, h7⟩
theorem Con.body {rm : Room} {as : Array Value} {h0 : Heap} {Ls : Array Slot} (pn : plainFor y = true) (hn0 : n0 ≤ h0.size) (ef : ∀ m, entryFrame m as maxL = mkF m 0 Ls [])
    (H : ∀ p e s m below meth c T, Pos Z y bytes maxL ret n0 p l e rm s m as below meth c T h0 0 0 → Goes p e below s n0 rm.cells rm.slots Q (T.setTop (mkF m 0 Ls []))) : Con l Z y bytes maxL ret rm n0 as h0 Q := by
  intro ws
  refine MetFree.of_bodySF pn hisR ?_
  intro p e s m args below meth c s₁ Bd hml0 hP hK
  obtain ⟨rfl, hZ, hh⟩ := hP
  have X0 : Stand p l e rm s m args below meth c s₁ [] 0 0 := Stand.of_body Bd
  have e0 : s₁.heap = h0 := by rw [← hh, Bd.state]; rfl
  rw [ef]
  exact H p e s m below meth c s₁ ⟨⟨Bd.exec, Bd.bytes, hml0, findClass_of_methodNamed Bd.named, (name_of_methodNamed Bd.named Bd.method).1, Bd.returns, Bd.notSynchronized, hZ, by rw [hh]; exact hn0⟩, [], X0, e0, Fr.nil n0⟩
theorem Pos.sz (P : Pos Z y bytes maxL ret n0 p l e R s m args below meth c T h cells slots) : n0 ≤ h.size := by
  obtain ⟨⟨-, -, -, -, -, -, -, -, hn0⟩, locs, X, rfl, -⟩ := P
  exact Nat.le_trans hn0 X.same.2.1
end Base
namespace G
section Plain
variable {Z : State} {y : MethodName} {bytes : ByteArray} {maxL : Nat} {ret : Option FieldType} {n0 : Nat} {p : Program} {l : Launch} {e : Env} {R : Room} {s : State} {m : MethodId} {args : Array Value} {below : List Frame} {meth : Method} {c : Code} {T : State} {h : Heap} {cells slots kc ks : Nat} {Q : Option Value → Heap → Prop} {pc pc' pcY pcN : Nat} {L L' : Array Slot} {S : List Value} {a0 : Array Value}
theorem iload (P : Pos Z y bytes maxL ret n0 p l e R s m args below meth c T h cells slots) {k : Nat} {v : Int32} (hd : decode bytes pc = .ok (.iload k, 2)) (hl : L[k]? = some (.val (.int v))) (hp : pc + 2 = pc') (k : Goes p e below s n0 kc ks Q (T.setTop (mkF m pc' L (.int v :: S)))) : Goes p e below s n0 kc ks Q (T.setTop (mkF m pc L S)) := by
  obtain ⟨⟨hx, rfl, rfl, hown, hnm, rfl, hlk, hZ, hn0⟩, locs, X, rfl, N⟩ := P
  subst hp
  exact k.via fun t q => XS.iload X.here hx rfl hd hl q
theorem iloadN (P : Pos Z y bytes maxL ret n0 p l e R s m args below meth c T h cells slots) {k : Fin 4} {v : Int32} (hd : decode bytes pc = .ok (.iload_n k, 1)) (hl : L[k.val]? = some (.val (.int v))) (hp : pc + 1 = pc') (k : Goes p e below s n0 kc ks Q (T.setTop (mkF m pc' L (.int v :: S)))) : Goes p e below s n0 kc ks Q (T.setTop (mkF m pc L S)) := by
  obtain ⟨⟨hx, rfl, rfl, hown, hnm, rfl, hlk, hZ, hn0⟩, locs, X, rfl, N⟩ := P
  subst hp
  exact k.via fun t q => XS.iloadN X.here hx rfl hd hl q
theorem lload (P : Pos Z y bytes maxL ret n0 p l e R s m args below meth c T h cells slots) {k : Nat} {v : Int64} (hd : decode bytes pc = .ok (.lload k, 2)) (hl : L[k]? = some (.val (.long v))) (hp : pc + 2 = pc') (k : Goes p e below s n0 kc ks Q (T.setTop (mkF m pc' L (.long v :: S)))) : Goes p e below s n0 kc ks Q (T.setTop (mkF m pc L S)) := by
  obtain ⟨⟨hx, rfl, rfl, hown, hnm, rfl, hlk, hZ, hn0⟩, locs, X, rfl, N⟩ := P
  subst hp
  exact k.via fun t q => XS.lload X.here hx rfl hd hl q
theorem lloadN (P : Pos Z y bytes maxL ret n0 p l e R s m args below meth c T h cells slots) {k : Fin 4} {v : Int64} (hd : decode bytes pc = .ok (.lload_n k, 1)) (hl : L[k.val]? = some (.val (.long v))) (hp : pc + 1 = pc') (k : Goes p e below s n0 kc ks Q (T.setTop (mkF m pc' L (.long v :: S)))) : Goes p e below s n0 kc ks Q (T.setTop (mkF m pc L S)) := by
  obtain ⟨⟨hx, rfl, rfl, hown, hnm, rfl, hlk, hZ, hn0⟩, locs, X, rfl, N⟩ := P
  subst hp
  exact k.via fun t q => XS.lloadN X.here hx rfl hd hl q
theorem aload (P : Pos Z y bytes maxL ret n0 p l e R s m args below meth c T h cells slots) {k : Nat} {v : Value} (hd : decode bytes pc = .ok (.aload k, 2)) (hl : L[k]? = some (.val v)) (hv : v.isRef = true) (hp : pc + 2 = pc') (k : Goes p e below s n0 kc ks Q (T.setTop (mkF m pc' L (v :: S)))) : Goes p e below s n0 kc ks Q (T.setTop (mkF m pc L S)) := by
  obtain ⟨⟨hx, rfl, rfl, hown, hnm, rfl, hlk, hZ, hn0⟩, locs, X, rfl, N⟩ := P
  subst hp
  exact k.via fun t q => XS.aload X.here hx rfl hd hl hv q
theorem aloadN (P : Pos Z y bytes maxL ret n0 p l e R s m args below meth c T h cells slots) {k : Fin 4} {v : Value} (hd : decode bytes pc = .ok (.aload_n k, 1)) (hl : L[k.val]? = some (.val v)) (hv : v.isRef = true) (hp : pc + 1 = pc') (k : Goes p e below s n0 kc ks Q (T.setTop (mkF m pc' L (v :: S)))) : Goes p e below s n0 kc ks Q (T.setTop (mkF m pc L S)) := by
  obtain ⟨⟨hx, rfl, rfl, hown, hnm, rfl, hlk, hZ, hn0⟩, locs, X, rfl, N⟩ := P
  subst hp
  exact k.via fun t q => XS.aloadN X.here hx rfl hd hl hv q
theorem istore (P : Pos Z y bytes maxL ret n0 p l e R s m args below meth c T h cells slots) {k : Nat} {v v' : Int32} (hd : decode bytes pc = .ok (.istore k, 2)) (hv : v = v') (hl : storeLocals L k (.int v') = some L') (hp : pc + 2 = pc') (k : Goes p e below s n0 kc ks Q (T.setTop (mkF m pc' L' S))) : Goes p e below s n0 kc ks Q (T.setTop (mkF m pc L (.int v :: S))) := by
  obtain ⟨⟨hx, rfl, rfl, hown, hnm, rfl, hlk, hZ, hn0⟩, locs, X, rfl, N⟩ := P
  subst hp hv
  exact k.via fun t q => XS.istore X.here hx rfl hd rfl hl q
theorem istoreN (P : Pos Z y bytes maxL ret n0 p l e R s m args below meth c T h cells slots) {k : Fin 4} {v v' : Int32} (hd : decode bytes pc = .ok (.istore_n k, 1)) (hv : v = v') (hl : storeLocals L k.val (.int v') = some L') (hp : pc + 1 = pc') (k : Goes p e below s n0 kc ks Q (T.setTop (mkF m pc' L' S))) : Goes p e below s n0 kc ks Q (T.setTop (mkF m pc L (.int v :: S))) := by
  obtain ⟨⟨hx, rfl, rfl, hown, hnm, rfl, hlk, hZ, hn0⟩, locs, X, rfl, N⟩ := P
  subst hp hv
  exact k.via fun t q => XS.istoreN X.here hx rfl hd rfl hl q
theorem lstore (P : Pos Z y bytes maxL ret n0 p l e R s m args below meth c T h cells slots) {k : Nat} {v v' : Int64} (hd : decode bytes pc = .ok (.lstore k, 2)) (hv : v = v') (hl : storeLocals L k (.long v') = some L') (hp : pc + 2 = pc') (k : Goes p e below s n0 kc ks Q (T.setTop (mkF m pc' L' S))) : Goes p e below s n0 kc ks Q (T.setTop (mkF m pc L (.long v :: S))) := by
  obtain ⟨⟨hx, rfl, rfl, hown, hnm, rfl, hlk, hZ, hn0⟩, locs, X, rfl, N⟩ := P
  subst hp hv
  exact k.via fun t q => XS.lstore X.here hx rfl hd rfl hl q
theorem lstoreN (P : Pos Z y bytes maxL ret n0 p l e R s m args below meth c T h cells slots) {k : Fin 4} {v v' : Int64} (hd : decode bytes pc = .ok (.lstore_n k, 1)) (hv : v = v') (hl : storeLocals L k.val (.long v') = some L') (hp : pc + 1 = pc') (k : Goes p e below s n0 kc ks Q (T.setTop (mkF m pc' L' S))) : Goes p e below s n0 kc ks Q (T.setTop (mkF m pc L (.long v :: S))) := by
  obtain ⟨⟨hx, rfl, rfl, hown, hnm, rfl, hlk, hZ, hn0⟩, locs, X, rfl, N⟩ := P
  subst hp hv
  exact k.via fun t q => XS.lstoreN X.here hx rfl hd rfl hl q
theorem astore (P : Pos Z y bytes maxL ret n0 p l e R s m args below meth c T h cells slots) {k : Nat} {v : Value} (hd : decode bytes pc = .ok (.astore k, 2)) (hv : v.isRef = true) (hl : storeLocals L k v = some L') (hp : pc + 2 = pc') (k : Goes p e below s n0 kc ks Q (T.setTop (mkF m pc' L' S))) : Goes p e below s n0 kc ks Q (T.setTop (mkF m pc L (v :: S))) := by
  obtain ⟨⟨hx, rfl, rfl, hown, hnm, rfl, hlk, hZ, hn0⟩, locs, X, rfl, N⟩ := P
  subst hp
  exact k.via fun t q => XS.astore X.here hx rfl hd rfl hv hl q
theorem astoreN (P : Pos Z y bytes maxL ret n0 p l e R s m args below meth c T h cells slots) {k : Fin 4} {v : Value} (hd : decode bytes pc = .ok (.astore_n k, 1)) (hv : v.isRef = true) (hl : storeLocals L k.val v = some L') (hp : pc + 1 = pc') (k : Goes p e below s n0 kc ks Q (T.setTop (mkF m pc' L' S))) : Goes p e below s n0 kc ks Q (T.setTop (mkF m pc L (v :: S))) := by
  obtain ⟨⟨hx, rfl, rfl, hown, hnm, rfl, hlk, hZ, hn0⟩, locs, X, rfl, N⟩ := P
  subst hp
  exact k.via fun t q => XS.astoreN X.here hx rfl hd rfl hv hl q
theorem iconst (P : Pos Z y bytes maxL ret n0 p l e R s m args below meth c T h cells slots) {i : Int} {v : Int32} (hd : decode bytes pc = .ok (.iconst i, 1)) (hv : Int32.ofInt i = v) (hp : pc + 1 = pc') (k : Goes p e below s n0 kc ks Q (T.setTop (mkF m pc' L (.int v :: S)))) : Goes p e below s n0 kc ks Q (T.setTop (mkF m pc L S)) := by
  obtain ⟨⟨hx, rfl, rfl, hown, hnm, rfl, hlk, hZ, hn0⟩, locs, X, rfl, N⟩ := P
  subst hp hv
  exact k.via fun t q => XS.iconst X.here hx rfl hd q
theorem bipush (P : Pos Z y bytes maxL ret n0 p l e R s m args below meth c T h cells slots) {i : Int} {v : Int32} (hd : decode bytes pc = .ok (.bipush i, 2)) (hv : (Int8.ofInt i).toInt32 = v) (hp : pc + 2 = pc') (k : Goes p e below s n0 kc ks Q (T.setTop (mkF m pc' L (.int v :: S)))) : Goes p e below s n0 kc ks Q (T.setTop (mkF m pc L S)) := by
  obtain ⟨⟨hx, rfl, rfl, hown, hnm, rfl, hlk, hZ, hn0⟩, locs, X, rfl, N⟩ := P
  subst hp hv
  exact k.via fun t q => XS.bipush X.here hx rfl hd q
theorem sipush (P : Pos Z y bytes maxL ret n0 p l e R s m args below meth c T h cells slots) {i : Int} {v : Int32} (hd : decode bytes pc = .ok (.sipush i, 3)) (hv : (Int16.ofInt i).toInt32 = v) (hp : pc + 3 = pc') (k : Goes p e below s n0 kc ks Q (T.setTop (mkF m pc' L (.int v :: S)))) : Goes p e below s n0 kc ks Q (T.setTop (mkF m pc L S)) := by
  obtain ⟨⟨hx, rfl, rfl, hown, hnm, rfl, hlk, hZ, hn0⟩, locs, X, rfl, N⟩ := P
  subst hp hv
  exact k.via fun t q => XS.sipush X.here hx rfl hd q
theorem lconst (P : Pos Z y bytes maxL ret n0 p l e R s m args below meth c T h cells slots) {i : Fin 2} {v : Int64} (hd : decode bytes pc = .ok (.lconst i, 1)) (hv : Int64.ofNat i = v) (hp : pc + 1 = pc') (k : Goes p e below s n0 kc ks Q (T.setTop (mkF m pc' L (.long v :: S)))) : Goes p e below s n0 kc ks Q (T.setTop (mkF m pc L S)) := by
  obtain ⟨⟨hx, rfl, rfl, hown, hnm, rfl, hlk, hZ, hn0⟩, locs, X, rfl, N⟩ := P
  subst hp hv
  exact k.via fun t q => XS.lconst X.here hx rfl hd q
theorem aconstNull (P : Pos Z y bytes maxL ret n0 p l e R s m args below meth c T h cells slots) (hd : decode bytes pc = .ok (.aconst_null, 1)) (hp : pc + 1 = pc') (k : Goes p e below s n0 kc ks Q (T.setTop (mkF m pc' L (.null :: S)))) : Goes p e below s n0 kc ks Q (T.setTop (mkF m pc L S)) := by
  obtain ⟨⟨hx, rfl, rfl, hown, hnm, rfl, hlk, hZ, hn0⟩, locs, X, rfl, N⟩ := P
  subst hp
  exact k.via fun t q => XS.aconstNull X.here hx rfl hd q
theorem iadd (P : Pos Z y bytes maxL ret n0 p l e R s m args below meth c T h cells slots) {x z : Int32} (hd : decode bytes pc = .ok (.iadd, 1)) (hp : pc + 1 = pc') (k : Goes p e below s n0 kc ks Q (T.setTop (mkF m pc' L (.int (x + z) :: S)))) : Goes p e below s n0 kc ks Q (T.setTop (mkF m pc L (.int z :: .int x :: S))) := by
  obtain ⟨⟨hx, rfl, rfl, hown, hnm, rfl, hlk, hZ, hn0⟩, locs, X, rfl, N⟩ := P
  subst hp
  exact k.via fun t q => XS.iadd X.here hx rfl hd rfl q
theorem isub (P : Pos Z y bytes maxL ret n0 p l e R s m args below meth c T h cells slots) {x z : Int32} (hd : decode bytes pc = .ok (.isub, 1)) (hp : pc + 1 = pc') (k : Goes p e below s n0 kc ks Q (T.setTop (mkF m pc' L (.int (x - z) :: S)))) : Goes p e below s n0 kc ks Q (T.setTop (mkF m pc L (.int z :: .int x :: S))) := by
  obtain ⟨⟨hx, rfl, rfl, hown, hnm, rfl, hlk, hZ, hn0⟩, locs, X, rfl, N⟩ := P
  subst hp
  exact k.via fun t q => XS.isub X.here hx rfl hd rfl q
theorem imul (P : Pos Z y bytes maxL ret n0 p l e R s m args below meth c T h cells slots) {x z : Int32} (hd : decode bytes pc = .ok (.imul, 1)) (hp : pc + 1 = pc') (k : Goes p e below s n0 kc ks Q (T.setTop (mkF m pc' L (.int (x * z) :: S)))) : Goes p e below s n0 kc ks Q (T.setTop (mkF m pc L (.int z :: .int x :: S))) := by
  obtain ⟨⟨hx, rfl, rfl, hown, hnm, rfl, hlk, hZ, hn0⟩, locs, X, rfl, N⟩ := P
  subst hp
  exact k.via fun t q => XS.imul X.here hx rfl hd rfl q
theorem iand (P : Pos Z y bytes maxL ret n0 p l e R s m args below meth c T h cells slots) {x z : Int32} (hd : decode bytes pc = .ok (.iand, 1)) (hp : pc + 1 = pc') (k : Goes p e below s n0 kc ks Q (T.setTop (mkF m pc' L (.int (x &&& z) :: S)))) : Goes p e below s n0 kc ks Q (T.setTop (mkF m pc L (.int z :: .int x :: S))) := by
  obtain ⟨⟨hx, rfl, rfl, hown, hnm, rfl, hlk, hZ, hn0⟩, locs, X, rfl, N⟩ := P
  subst hp
  exact k.via fun t q => XS.iand X.here hx rfl hd rfl q
theorem ior (P : Pos Z y bytes maxL ret n0 p l e R s m args below meth c T h cells slots) {x z : Int32} (hd : decode bytes pc = .ok (.ior, 1)) (hp : pc + 1 = pc') (k : Goes p e below s n0 kc ks Q (T.setTop (mkF m pc' L (.int (x ||| z) :: S)))) : Goes p e below s n0 kc ks Q (T.setTop (mkF m pc L (.int z :: .int x :: S))) := by
  obtain ⟨⟨hx, rfl, rfl, hown, hnm, rfl, hlk, hZ, hn0⟩, locs, X, rfl, N⟩ := P
  subst hp
  exact k.via fun t q => XS.ior X.here hx rfl hd rfl q
theorem ixor (P : Pos Z y bytes maxL ret n0 p l e R s m args below meth c T h cells slots) {x z : Int32} (hd : decode bytes pc = .ok (.ixor, 1)) (hp : pc + 1 = pc') (k : Goes p e below s n0 kc ks Q (T.setTop (mkF m pc' L (.int (x ^^^ z) :: S)))) : Goes p e below s n0 kc ks Q (T.setTop (mkF m pc L (.int z :: .int x :: S))) := by
  obtain ⟨⟨hx, rfl, rfl, hown, hnm, rfl, hlk, hZ, hn0⟩, locs, X, rfl, N⟩ := P
  subst hp
  exact k.via fun t q => XS.ixor X.here hx rfl hd rfl q
theorem ishl (P : Pos Z y bytes maxL ret n0 p l e R s m args below meth c T h cells slots) {x z : Int32} (hd : decode bytes pc = .ok (.ishl, 1)) (hp : pc + 1 = pc') (k : Goes p e below s n0 kc ks Q (T.setTop (mkF m pc' L (.int (x <<< (z &&& 31)) :: S)))) : Goes p e below s n0 kc ks Q (T.setTop (mkF m pc L (.int z :: .int x :: S))) := by
  obtain ⟨⟨hx, rfl, rfl, hown, hnm, rfl, hlk, hZ, hn0⟩, locs, X, rfl, N⟩ := P
  subst hp
  exact k.via fun t q => XS.ishl X.here hx rfl hd rfl q
theorem ishr (P : Pos Z y bytes maxL ret n0 p l e R s m args below meth c T h cells slots) {x z : Int32} (hd : decode bytes pc = .ok (.ishr, 1)) (hp : pc + 1 = pc') (k : Goes p e below s n0 kc ks Q (T.setTop (mkF m pc' L (.int (x >>> (z &&& 31)) :: S)))) : Goes p e below s n0 kc ks Q (T.setTop (mkF m pc L (.int z :: .int x :: S))) := by
  obtain ⟨⟨hx, rfl, rfl, hown, hnm, rfl, hlk, hZ, hn0⟩, locs, X, rfl, N⟩ := P
  subst hp
  exact k.via fun t q => XS.ishr X.here hx rfl hd rfl q
theorem iushr (P : Pos Z y bytes maxL ret n0 p l e R s m args below meth c T h cells slots) {x z : Int32} (hd : decode bytes pc = .ok (.iushr, 1)) (hp : pc + 1 = pc') (k : Goes p e below s n0 kc ks Q (T.setTop (mkF m pc' L (.int ((x.toUInt32 >>> (z &&& 31).toUInt32).toInt32) :: S)))) : Goes p e below s n0 kc ks Q (T.setTop (mkF m pc L (.int z :: .int x :: S))) := by
  obtain ⟨⟨hx, rfl, rfl, hown, hnm, rfl, hlk, hZ, hn0⟩, locs, X, rfl, N⟩ := P
  subst hp
  exact k.via fun t q => XS.iushr X.here hx rfl hd rfl q
theorem ladd (P : Pos Z y bytes maxL ret n0 p l e R s m args below meth c T h cells slots) {x z : Int64} (hd : decode bytes pc = .ok (.ladd, 1)) (hp : pc + 1 = pc') (k : Goes p e below s n0 kc ks Q (T.setTop (mkF m pc' L (.long (x + z) :: S)))) : Goes p e below s n0 kc ks Q (T.setTop (mkF m pc L (.long z :: .long x :: S))) := by
  obtain ⟨⟨hx, rfl, rfl, hown, hnm, rfl, hlk, hZ, hn0⟩, locs, X, rfl, N⟩ := P
  subst hp
  exact k.via fun t q => XS.ladd X.here hx rfl hd rfl q
theorem lsub (P : Pos Z y bytes maxL ret n0 p l e R s m args below meth c T h cells slots) {x z : Int64} (hd : decode bytes pc = .ok (.lsub, 1)) (hp : pc + 1 = pc') (k : Goes p e below s n0 kc ks Q (T.setTop (mkF m pc' L (.long (x - z) :: S)))) : Goes p e below s n0 kc ks Q (T.setTop (mkF m pc L (.long z :: .long x :: S))) := by
  obtain ⟨⟨hx, rfl, rfl, hown, hnm, rfl, hlk, hZ, hn0⟩, locs, X, rfl, N⟩ := P
  subst hp
  exact k.via fun t q => XS.lsub X.here hx rfl hd rfl q
theorem lmul (P : Pos Z y bytes maxL ret n0 p l e R s m args below meth c T h cells slots) {x z : Int64} (hd : decode bytes pc = .ok (.lmul, 1)) (hp : pc + 1 = pc') (k : Goes p e below s n0 kc ks Q (T.setTop (mkF m pc' L (.long (x * z) :: S)))) : Goes p e below s n0 kc ks Q (T.setTop (mkF m pc L (.long z :: .long x :: S))) := by
  obtain ⟨⟨hx, rfl, rfl, hown, hnm, rfl, hlk, hZ, hn0⟩, locs, X, rfl, N⟩ := P
  subst hp
  exact k.via fun t q => XS.lmul X.here hx rfl hd rfl q
theorem land (P : Pos Z y bytes maxL ret n0 p l e R s m args below meth c T h cells slots) {x z : Int64} (hd : decode bytes pc = .ok (.land, 1)) (hp : pc + 1 = pc') (k : Goes p e below s n0 kc ks Q (T.setTop (mkF m pc' L (.long (x &&& z) :: S)))) : Goes p e below s n0 kc ks Q (T.setTop (mkF m pc L (.long z :: .long x :: S))) := by
  obtain ⟨⟨hx, rfl, rfl, hown, hnm, rfl, hlk, hZ, hn0⟩, locs, X, rfl, N⟩ := P
  subst hp
  exact k.via fun t q => XS.land X.here hx rfl hd rfl q
theorem lor (P : Pos Z y bytes maxL ret n0 p l e R s m args below meth c T h cells slots) {x z : Int64} (hd : decode bytes pc = .ok (.lor, 1)) (hp : pc + 1 = pc') (k : Goes p e below s n0 kc ks Q (T.setTop (mkF m pc' L (.long (x ||| z) :: S)))) : Goes p e below s n0 kc ks Q (T.setTop (mkF m pc L (.long z :: .long x :: S))) := by
  obtain ⟨⟨hx, rfl, rfl, hown, hnm, rfl, hlk, hZ, hn0⟩, locs, X, rfl, N⟩ := P
  subst hp
  exact k.via fun t q => XS.lor X.here hx rfl hd rfl q
theorem lxor (P : Pos Z y bytes maxL ret n0 p l e R s m args below meth c T h cells slots) {x z : Int64} (hd : decode bytes pc = .ok (.lxor, 1)) (hp : pc + 1 = pc') (k : Goes p e below s n0 kc ks Q (T.setTop (mkF m pc' L (.long (x ^^^ z) :: S)))) : Goes p e below s n0 kc ks Q (T.setTop (mkF m pc L (.long z :: .long x :: S))) := by
  obtain ⟨⟨hx, rfl, rfl, hown, hnm, rfl, hlk, hZ, hn0⟩, locs, X, rfl, N⟩ := P
  subst hp
  exact k.via fun t q => XS.lxor X.here hx rfl hd rfl q
theorem lshl (P : Pos Z y bytes maxL ret n0 p l e R s m args below meth c T h cells slots) {x : Int64} {z : Int32} (hd : decode bytes pc = .ok (.lshl, 1)) (hp : pc + 1 = pc') (k : Goes p e below s n0 kc ks Q (T.setTop (mkF m pc' L (.long (x <<< (z &&& 0x3f).toInt64) :: S)))) : Goes p e below s n0 kc ks Q (T.setTop (mkF m pc L (.int z :: .long x :: S))) := by
  obtain ⟨⟨hx, rfl, rfl, hown, hnm, rfl, hlk, hZ, hn0⟩, locs, X, rfl, N⟩ := P
  subst hp
  exact k.via fun t q => XS.lshl X.here hx rfl hd rfl q
theorem lshr (P : Pos Z y bytes maxL ret n0 p l e R s m args below meth c T h cells slots) {x : Int64} {z : Int32} (hd : decode bytes pc = .ok (.lshr, 1)) (hp : pc + 1 = pc') (k : Goes p e below s n0 kc ks Q (T.setTop (mkF m pc' L (.long (x >>> (z &&& 0x3f).toInt64) :: S)))) : Goes p e below s n0 kc ks Q (T.setTop (mkF m pc L (.int z :: .long x :: S))) := by
  obtain ⟨⟨hx, rfl, rfl, hown, hnm, rfl, hlk, hZ, hn0⟩, locs, X, rfl, N⟩ := P
  subst hp
  exact k.via fun t q => XS.lshr X.here hx rfl hd rfl q
theorem lushr (P : Pos Z y bytes maxL ret n0 p l e R s m args below meth c T h cells slots) {x : Int64} {z : Int32} (hd : decode bytes pc = .ok (.lushr, 1)) (hp : pc + 1 = pc') (k : Goes p e below s n0 kc ks Q (T.setTop (mkF m pc' L (.long ((x.toUInt64 >>> (z &&& 0x3f).toInt64.toUInt64).toInt64) :: S)))) : Goes p e below s n0 kc ks Q (T.setTop (mkF m pc L (.int z :: .long x :: S))) := by
  obtain ⟨⟨hx, rfl, rfl, hown, hnm, rfl, hlk, hZ, hn0⟩, locs, X, rfl, N⟩ := P
  subst hp
  exact k.via fun t q => XS.lushr X.here hx rfl hd rfl q
theorem idiv (P : Pos Z y bytes maxL ret n0 p l e R s m args below meth c T h cells slots) {x z : Int32} (hd : decode bytes pc = .ok (.idiv, 1)) (hz : z ≠ 0) (hp : pc + 1 = pc') (k : Goes p e below s n0 kc ks Q (T.setTop (mkF m pc' L (.int (x / z) :: S)))) : Goes p e below s n0 kc ks Q (T.setTop (mkF m pc L (.int z :: .int x :: S))) := by
  obtain ⟨⟨hx, rfl, rfl, hown, hnm, rfl, hlk, hZ, hn0⟩, locs, X, rfl, N⟩ := P
  subst hp
  exact k.via fun t q => XS.idiv X.here hx rfl hd rfl hz q
theorem irem (P : Pos Z y bytes maxL ret n0 p l e R s m args below meth c T h cells slots) {x z : Int32} (hd : decode bytes pc = .ok (.irem, 1)) (hz : z ≠ 0) (hp : pc + 1 = pc') (k : Goes p e below s n0 kc ks Q (T.setTop (mkF m pc' L (.int (x % z) :: S)))) : Goes p e below s n0 kc ks Q (T.setTop (mkF m pc L (.int z :: .int x :: S))) := by
  obtain ⟨⟨hx, rfl, rfl, hown, hnm, rfl, hlk, hZ, hn0⟩, locs, X, rfl, N⟩ := P
  subst hp
  exact k.via fun t q => iremM X hx rfl hd rfl hz q
theorem ldiv (P : Pos Z y bytes maxL ret n0 p l e R s m args below meth c T h cells slots) {x z : Int64} (hd : decode bytes pc = .ok (.ldiv, 1)) (hz : z ≠ 0) (hp : pc + 1 = pc') (k : Goes p e below s n0 kc ks Q (T.setTop (mkF m pc' L (.long (x / z) :: S)))) : Goes p e below s n0 kc ks Q (T.setTop (mkF m pc L (.long z :: .long x :: S))) := by
  obtain ⟨⟨hx, rfl, rfl, hown, hnm, rfl, hlk, hZ, hn0⟩, locs, X, rfl, N⟩ := P
  subst hp
  exact k.via fun t q => XS.ldiv X.here hx rfl hd rfl hz q
theorem lrem (P : Pos Z y bytes maxL ret n0 p l e R s m args below meth c T h cells slots) {x z : Int64} (hd : decode bytes pc = .ok (.lrem, 1)) (hz : z ≠ 0) (hp : pc + 1 = pc') (k : Goes p e below s n0 kc ks Q (T.setTop (mkF m pc' L (.long (x % z) :: S)))) : Goes p e below s n0 kc ks Q (T.setTop (mkF m pc L (.long z :: .long x :: S))) := by
  obtain ⟨⟨hx, rfl, rfl, hown, hnm, rfl, hlk, hZ, hn0⟩, locs, X, rfl, N⟩ := P
  subst hp
  exact k.via fun t q => XS.lrem X.here hx rfl hd rfl hz (by rw [lrem_mod]; exact q)
theorem ineg (P : Pos Z y bytes maxL ret n0 p l e R s m args below meth c T h cells slots) {x : Int32} (hd : decode bytes pc = .ok (.ineg, 1)) (hp : pc + 1 = pc') (k : Goes p e below s n0 kc ks Q (T.setTop (mkF m pc' L (.int (-x) :: S)))) : Goes p e below s n0 kc ks Q (T.setTop (mkF m pc L (.int x :: S))) := by
  obtain ⟨⟨hx, rfl, rfl, hown, hnm, rfl, hlk, hZ, hn0⟩, locs, X, rfl, N⟩ := P
  subst hp
  exact k.via fun t q => XS.ineg X.here hx rfl hd rfl q
theorem lneg (P : Pos Z y bytes maxL ret n0 p l e R s m args below meth c T h cells slots) {x : Int64} (hd : decode bytes pc = .ok (.lneg, 1)) (hp : pc + 1 = pc') (k : Goes p e below s n0 kc ks Q (T.setTop (mkF m pc' L (.long (-x) :: S)))) : Goes p e below s n0 kc ks Q (T.setTop (mkF m pc L (.long x :: S))) := by
  obtain ⟨⟨hx, rfl, rfl, hown, hnm, rfl, hlk, hZ, hn0⟩, locs, X, rfl, N⟩ := P
  subst hp
  exact k.via fun t q => XS.lneg X.here hx rfl hd rfl q
theorem i2l (P : Pos Z y bytes maxL ret n0 p l e R s m args below meth c T h cells slots) {x : Int32} (hd : decode bytes pc = .ok (.i2l, 1)) (hp : pc + 1 = pc') (k : Goes p e below s n0 kc ks Q (T.setTop (mkF m pc' L (.long (x.toInt64) :: S)))) : Goes p e below s n0 kc ks Q (T.setTop (mkF m pc L (.int x :: S))) := by
  obtain ⟨⟨hx, rfl, rfl, hown, hnm, rfl, hlk, hZ, hn0⟩, locs, X, rfl, N⟩ := P
  subst hp
  exact k.via fun t q => XS.i2l X.here hx rfl hd rfl q
theorem l2i (P : Pos Z y bytes maxL ret n0 p l e R s m args below meth c T h cells slots) {x : Int64} (hd : decode bytes pc = .ok (.l2i, 1)) (hp : pc + 1 = pc') (k : Goes p e below s n0 kc ks Q (T.setTop (mkF m pc' L (.int (x.toInt32) :: S)))) : Goes p e below s n0 kc ks Q (T.setTop (mkF m pc L (.long x :: S))) := by
  obtain ⟨⟨hx, rfl, rfl, hown, hnm, rfl, hlk, hZ, hn0⟩, locs, X, rfl, N⟩ := P
  subst hp
  exact k.via fun t q => XS.l2i X.here hx rfl hd rfl q
theorem i2b (P : Pos Z y bytes maxL ret n0 p l e R s m args below meth c T h cells slots) {x : Int32} (hd : decode bytes pc = .ok (.i2b, 1)) (hp : pc + 1 = pc') (k : Goes p e below s n0 kc ks Q (T.setTop (mkF m pc' L (.int (x.toInt8.toInt32) :: S)))) : Goes p e below s n0 kc ks Q (T.setTop (mkF m pc L (.int x :: S))) := by
  obtain ⟨⟨hx, rfl, rfl, hown, hnm, rfl, hlk, hZ, hn0⟩, locs, X, rfl, N⟩ := P
  subst hp
  exact k.via fun t q => XS.i2b X.here hx rfl hd rfl q
theorem i2s (P : Pos Z y bytes maxL ret n0 p l e R s m args below meth c T h cells slots) {x : Int32} (hd : decode bytes pc = .ok (.i2s, 1)) (hp : pc + 1 = pc') (k : Goes p e below s n0 kc ks Q (T.setTop (mkF m pc' L (.int (x.toInt16.toInt32) :: S)))) : Goes p e below s n0 kc ks Q (T.setTop (mkF m pc L (.int x :: S))) := by
  obtain ⟨⟨hx, rfl, rfl, hown, hnm, rfl, hlk, hZ, hn0⟩, locs, X, rfl, N⟩ := P
  subst hp
  exact k.via fun t q => XS.i2s X.here hx rfl hd rfl q
theorem i2c (P : Pos Z y bytes maxL ret n0 p l e R s m args below meth c T h cells slots) {x : Int32} (hd : decode bytes pc = .ok (.i2c, 1)) (hp : pc + 1 = pc') (k : Goes p e below s n0 kc ks Q (T.setTop (mkF m pc' L (.int (x.toUInt32.toUInt16.toUInt32.toInt32) :: S)))) : Goes p e below s n0 kc ks Q (T.setTop (mkF m pc L (.int x :: S))) := by
  obtain ⟨⟨hx, rfl, rfl, hown, hnm, rfl, hlk, hZ, hn0⟩, locs, X, rfl, N⟩ := P
  subst hp
  exact k.via fun t q => XS.i2c X.here hx rfl hd rfl q
theorem lcmp (P : Pos Z y bytes maxL ret n0 p l e R s m args below meth c T h cells slots) {x z : Int64} (hd : decode bytes pc = .ok (.lcmp, 1)) (hp : pc + 1 = pc') (k : Goes p e below s n0 kc ks Q (T.setTop (mkF m pc' L (.int (lcmpW x z) :: S)))) : Goes p e below s n0 kc ks Q (T.setTop (mkF m pc L (.long z :: .long x :: S))) := by
  obtain ⟨⟨hx, rfl, rfl, hown, hnm, rfl, hlk, hZ, hn0⟩, locs, X, rfl, N⟩ := P
  subst hp
  exact k.via fun t q => XS.lcmp X.here hx rfl hd rfl q
theorem iinc (P : Pos Z y bytes maxL ret n0 p l e R s m args below meth c T h cells slots) {k : Nat} {i : Int} {x v' : Int32} (hd : decode bytes pc = .ok (.iinc k i, 3)) (hl : L[k]? = some (.val (.int x))) (hv : x + Int32.ofInt i = v') (hl' : storeLocals L k (.int v') = some L') (hp : pc + 3 = pc') (k : Goes p e below s n0 kc ks Q (T.setTop (mkF m pc' L' S))) : Goes p e below s n0 kc ks Q (T.setTop (mkF m pc L S)) := by
  obtain ⟨⟨hx, rfl, rfl, hown, hnm, rfl, hlk, hZ, hn0⟩, locs, X, rfl, N⟩ := P
  subst hp hv
  exact k.via fun t q => XS.iinc X.here hx rfl hd hl hl' q
theorem dup (P : Pos Z y bytes maxL ret n0 p l e R s m args below meth c T h cells slots) {v : Value} (hd : decode bytes pc = .ok (.dup, 1)) (hc : v.category = 1) (hp : pc + 1 = pc') (k : Goes p e below s n0 kc ks Q (T.setTop (mkF m pc' L (v :: v :: S)))) : Goes p e below s n0 kc ks Q (T.setTop (mkF m pc L (v :: S))) := by
  obtain ⟨⟨hx, rfl, rfl, hown, hnm, rfl, hlk, hZ, hn0⟩, locs, X, rfl, N⟩ := P
  subst hp
  exact k.via fun t q => XS.dup X.here hx rfl hd rfl hc q
theorem pop (P : Pos Z y bytes maxL ret n0 p l e R s m args below meth c T h cells slots) {v : Value} (hd : decode bytes pc = .ok (.pop, 1)) (hc : v.category = 1) (hp : pc + 1 = pc') (k : Goes p e below s n0 kc ks Q (T.setTop (mkF m pc' L S))) : Goes p e below s n0 kc ks Q (T.setTop (mkF m pc L (v :: S))) := by
  obtain ⟨⟨hx, rfl, rfl, hown, hnm, rfl, hlk, hZ, hn0⟩, locs, X, rfl, N⟩ := P
  subst hp
  exact k.via fun t q => XS.pop X.here hx rfl hd rfl hc q
theorem dupX1 (P : Pos Z y bytes maxL ret n0 p l e R s m args below meth c T h cells slots) {v u : Value} (hd : decode bytes pc = .ok (.dup_x1, 1)) (hc : v.category = 1) (hc' : u.category = 1) (hp : pc + 1 = pc') (k : Goes p e below s n0 kc ks Q (T.setTop (mkF m pc' L (v :: u :: v :: S)))) : Goes p e below s n0 kc ks Q (T.setTop (mkF m pc L (v :: u :: S))) := by
  obtain ⟨⟨hx, rfl, rfl, hown, hnm, rfl, hlk, hZ, hn0⟩, locs, X, rfl, N⟩ := P
  subst hp
  exact k.via fun t q => XS.dupX1 X.here hx rfl hd rfl hc hc' q
theorem dup2 (P : Pos Z y bytes maxL ret n0 p l e R s m args below meth c T h cells slots) {v u : Value} (hd : decode bytes pc = .ok (.dup2, 1)) (hc : v.category = 1) (hc' : u.category = 1) (hp : pc + 1 = pc') (k : Goes p e below s n0 kc ks Q (T.setTop (mkF m pc' L (v :: u :: v :: u :: S)))) : Goes p e below s n0 kc ks Q (T.setTop (mkF m pc L (v :: u :: S))) := by
  obtain ⟨⟨hx, rfl, rfl, hown, hnm, rfl, hlk, hZ, hn0⟩, locs, X, rfl, N⟩ := P
  subst hp
  exact k.via fun t q => XT.dup2 X.here hx rfl hd rfl hc hc' q
theorem pop2L (P : Pos Z y bytes maxL ret n0 p l e R s m args below meth c T h cells slots) {v : Int64} (hd : decode bytes pc = .ok (.pop2, 1)) (hp : pc + 1 = pc') (k : Goes p e below s n0 kc ks Q (T.setTop (mkF m pc' L S))) : Goes p e below s n0 kc ks Q (T.setTop (mkF m pc L (.long v :: S))) := by
  obtain ⟨⟨hx, rfl, rfl, hown, hnm, rfl, hlk, hZ, hn0⟩, locs, X, rfl, N⟩ := P
  subst hp
  refine k.via fun t q => ?_
  jvm_step X.here [X.here.top, hx, hd, Value.category]
  exact q
theorem goto (P : Pos Z y bytes maxL ret n0 p l e R s m args below meth c T h cells slots) {o : Int} (hd : decode bytes pc = .ok (.goto o, 3)) (ho : 0 ≤ (pc : Int) + o) (hp : ((pc : Int) + o).toNat = pc') (k : Goes p e below s n0 kc ks Q (T.setTop (mkF m pc' L S))) : Goes p e below s n0 kc ks Q (T.setTop (mkF m pc L S)) := by
  obtain ⟨⟨hx, rfl, rfl, hown, hnm, rfl, hlk, hZ, hn0⟩, locs, X, rfl, N⟩ := P
  exact k.via fun t q => XS.goto X.here hx rfl (pc0 := pc) (pc' := pc') rfl hd ho hp q
theorem icmp_lt (P : Pos Z y bytes maxL ret n0 p l e R s m args below meth c T h cells slots) {x z : Int32} {o : Int} (hd : decode bytes pc = .ok (.if_icmp .lt o, 3)) (ho : 0 ≤ (pc : Int) + o) (hY : ((pc : Int) + o).toNat = pcY) (hN : pc + 3 = pcN) (kY : x < z → Goes p e below s n0 kc ks Q (T.setTop (mkF m pcY L S))) (kN : ¬ x < z → Goes p e below s n0 kc ks Q (T.setTop (mkF m pcN L S))) : Goes p e below s n0 kc ks Q (T.setTop (mkF m pc L (.int z :: .int x :: S))) := by
  obtain ⟨⟨hx, rfl, rfl, hown, hnm, rfl, hlk, hZ, hn0⟩, locs, X, rfl, N⟩ := P
  by_cases q : x < z
  · exact (kY q).via fun t r => XS.icmpYes X.here hx rfl (pc0 := pc) (pc' := pcY) rfl hd rfl (tlt q).1 ho hY r
  · subst hN
    exact (kN q).via fun t r => XS.icmpNo X.here hx rfl hd rfl (flt q).1 r
theorem if_lt (P : Pos Z y bytes maxL ret n0 p l e R s m args below meth c T h cells slots) {x : Int32} {o : Int} (hd : decode bytes pc = .ok (.ifCond .lt o, 3)) (ho : 0 ≤ (pc : Int) + o) (hY : ((pc : Int) + o).toNat = pcY) (hN : pc + 3 = pcN) (kY : x < 0 → Goes p e below s n0 kc ks Q (T.setTop (mkF m pcY L S))) (kN : ¬ x < 0 → Goes p e below s n0 kc ks Q (T.setTop (mkF m pcN L S))) : Goes p e below s n0 kc ks Q (T.setTop (mkF m pc L (.int x :: S))) := by
  obtain ⟨⟨hx, rfl, rfl, hown, hnm, rfl, hlk, hZ, hn0⟩, locs, X, rfl, N⟩ := P
  by_cases q : x < 0
  · exact (kY q).via fun t r => XS.ifYes X.here hx rfl (pc0 := pc) (pc' := pcY) rfl hd rfl ((if0 _ _).trans (tlt q).1) ho hY r
  · subst hN
    exact (kN q).via fun t r => XS.ifNo X.here hx rfl hd rfl ((if0 _ _).trans (flt q).1) r
theorem icmp_ge (P : Pos Z y bytes maxL ret n0 p l e R s m args below meth c T h cells slots) {x z : Int32} {o : Int} (hd : decode bytes pc = .ok (.if_icmp .ge o, 3)) (ho : 0 ≤ (pc : Int) + o) (hY : ((pc : Int) + o).toNat = pcY) (hN : pc + 3 = pcN) (kY : ¬ x < z → Goes p e below s n0 kc ks Q (T.setTop (mkF m pcY L S))) (kN : x < z → Goes p e below s n0 kc ks Q (T.setTop (mkF m pcN L S))) : Goes p e below s n0 kc ks Q (T.setTop (mkF m pc L (.int z :: .int x :: S))) := by
  obtain ⟨⟨hx, rfl, rfl, hown, hnm, rfl, hlk, hZ, hn0⟩, locs, X, rfl, N⟩ := P
  by_cases q : x < z
  · subst hN
    exact (kN q).via fun t r => XS.icmpNo X.here hx rfl hd rfl (tlt q).2.1 r
  · exact (kY q).via fun t r => XS.icmpYes X.here hx rfl (pc0 := pc) (pc' := pcY) rfl hd rfl (flt q).2.1 ho hY r
theorem if_ge (P : Pos Z y bytes maxL ret n0 p l e R s m args below meth c T h cells slots) {x : Int32} {o : Int} (hd : decode bytes pc = .ok (.ifCond .ge o, 3)) (ho : 0 ≤ (pc : Int) + o) (hY : ((pc : Int) + o).toNat = pcY) (hN : pc + 3 = pcN) (kY : ¬ x < 0 → Goes p e below s n0 kc ks Q (T.setTop (mkF m pcY L S))) (kN : x < 0 → Goes p e below s n0 kc ks Q (T.setTop (mkF m pcN L S))) : Goes p e below s n0 kc ks Q (T.setTop (mkF m pc L (.int x :: S))) := by
  obtain ⟨⟨hx, rfl, rfl, hown, hnm, rfl, hlk, hZ, hn0⟩, locs, X, rfl, N⟩ := P
  by_cases q : x < 0
  · subst hN
    exact (kN q).via fun t r => XS.ifNo X.here hx rfl hd rfl ((if0 _ _).trans (tlt q).2.1) r
  · exact (kY q).via fun t r => XS.ifYes X.here hx rfl (pc0 := pc) (pc' := pcY) rfl hd rfl ((if0 _ _).trans (flt q).2.1) ho hY r
theorem icmp_gt (P : Pos Z y bytes maxL ret n0 p l e R s m args below meth c T h cells slots) {x z : Int32} {o : Int} (hd : decode bytes pc = .ok (.if_icmp .gt o, 3)) (ho : 0 ≤ (pc : Int) + o) (hY : ((pc : Int) + o).toNat = pcY) (hN : pc + 3 = pcN) (kY : z < x → Goes p e below s n0 kc ks Q (T.setTop (mkF m pcY L S))) (kN : ¬ z < x → Goes p e below s n0 kc ks Q (T.setTop (mkF m pcN L S))) : Goes p e below s n0 kc ks Q (T.setTop (mkF m pc L (.int z :: .int x :: S))) := by
  obtain ⟨⟨hx, rfl, rfl, hown, hnm, rfl, hlk, hZ, hn0⟩, locs, X, rfl, N⟩ := P
  by_cases q : z < x
  · exact (kY q).via fun t r => XS.icmpYes X.here hx rfl (pc0 := pc) (pc' := pcY) rfl hd rfl (tlt q).2.2.1 ho hY r
  · subst hN
    exact (kN q).via fun t r => XS.icmpNo X.here hx rfl hd rfl (flt q).2.2.1 r
theorem if_gt (P : Pos Z y bytes maxL ret n0 p l e R s m args below meth c T h cells slots) {x : Int32} {o : Int} (hd : decode bytes pc = .ok (.ifCond .gt o, 3)) (ho : 0 ≤ (pc : Int) + o) (hY : ((pc : Int) + o).toNat = pcY) (hN : pc + 3 = pcN) (kY : 0 < x → Goes p e below s n0 kc ks Q (T.setTop (mkF m pcY L S))) (kN : ¬ 0 < x → Goes p e below s n0 kc ks Q (T.setTop (mkF m pcN L S))) : Goes p e below s n0 kc ks Q (T.setTop (mkF m pc L (.int x :: S))) := by
  obtain ⟨⟨hx, rfl, rfl, hown, hnm, rfl, hlk, hZ, hn0⟩, locs, X, rfl, N⟩ := P
  by_cases q : 0 < x
  · exact (kY q).via fun t r => XS.ifYes X.here hx rfl (pc0 := pc) (pc' := pcY) rfl hd rfl ((if0 _ _).trans (tlt q).2.2.1) ho hY r
  · subst hN
    exact (kN q).via fun t r => XS.ifNo X.here hx rfl hd rfl ((if0 _ _).trans (flt q).2.2.1) r
theorem icmp_le (P : Pos Z y bytes maxL ret n0 p l e R s m args below meth c T h cells slots) {x z : Int32} {o : Int} (hd : decode bytes pc = .ok (.if_icmp .le o, 3)) (ho : 0 ≤ (pc : Int) + o) (hY : ((pc : Int) + o).toNat = pcY) (hN : pc + 3 = pcN) (kY : ¬ z < x → Goes p e below s n0 kc ks Q (T.setTop (mkF m pcY L S))) (kN : z < x → Goes p e below s n0 kc ks Q (T.setTop (mkF m pcN L S))) : Goes p e below s n0 kc ks Q (T.setTop (mkF m pc L (.int z :: .int x :: S))) := by
  obtain ⟨⟨hx, rfl, rfl, hown, hnm, rfl, hlk, hZ, hn0⟩, locs, X, rfl, N⟩ := P
  by_cases q : z < x
  · subst hN
    exact (kN q).via fun t r => XS.icmpNo X.here hx rfl hd rfl (tlt q).2.2.2 r
  · exact (kY q).via fun t r => XS.icmpYes X.here hx rfl (pc0 := pc) (pc' := pcY) rfl hd rfl (flt q).2.2.2 ho hY r
theorem if_le (P : Pos Z y bytes maxL ret n0 p l e R s m args below meth c T h cells slots) {x : Int32} {o : Int} (hd : decode bytes pc = .ok (.ifCond .le o, 3)) (ho : 0 ≤ (pc : Int) + o) (hY : ((pc : Int) + o).toNat = pcY) (hN : pc + 3 = pcN) (kY : ¬ 0 < x → Goes p e below s n0 kc ks Q (T.setTop (mkF m pcY L S))) (kN : 0 < x → Goes p e below s n0 kc ks Q (T.setTop (mkF m pcN L S))) : Goes p e below s n0 kc ks Q (T.setTop (mkF m pc L (.int x :: S))) := by
  obtain ⟨⟨hx, rfl, rfl, hown, hnm, rfl, hlk, hZ, hn0⟩, locs, X, rfl, N⟩ := P
  by_cases q : 0 < x
  · subst hN
    exact (kN q).via fun t r => XS.ifNo X.here hx rfl hd rfl ((if0 _ _).trans (tlt q).2.2.2) r
  · exact (kY q).via fun t r => XS.ifYes X.here hx rfl (pc0 := pc) (pc' := pcY) rfl hd rfl ((if0 _ _).trans (flt q).2.2.2) ho hY r
theorem icmp_eq (P : Pos Z y bytes maxL ret n0 p l e R s m args below meth c T h cells slots) {x z : Int32} {o : Int} (hd : decode bytes pc = .ok (.if_icmp .eq o, 3)) (ho : 0 ≤ (pc : Int) + o) (hY : ((pc : Int) + o).toNat = pcY) (hN : pc + 3 = pcN) (kY : x = z → Goes p e below s n0 kc ks Q (T.setTop (mkF m pcY L S))) (kN : ¬ x = z → Goes p e below s n0 kc ks Q (T.setTop (mkF m pcN L S))) : Goes p e below s n0 kc ks Q (T.setTop (mkF m pc L (.int z :: .int x :: S))) := by
  obtain ⟨⟨hx, rfl, rfl, hown, hnm, rfl, hlk, hZ, hn0⟩, locs, X, rfl, N⟩ := P
  by_cases q : x = z
  · exact (kY q).via fun t r => XS.icmpYes X.here hx rfl (pc0 := pc) (pc' := pcY) rfl hd rfl (teq q).1 ho hY r
  · subst hN
    exact (kN q).via fun t r => XS.icmpNo X.here hx rfl hd rfl (feq q).1 r
theorem if_eq (P : Pos Z y bytes maxL ret n0 p l e R s m args below meth c T h cells slots) {x : Int32} {o : Int} (hd : decode bytes pc = .ok (.ifCond .eq o, 3)) (ho : 0 ≤ (pc : Int) + o) (hY : ((pc : Int) + o).toNat = pcY) (hN : pc + 3 = pcN) (kY : x = 0 → Goes p e below s n0 kc ks Q (T.setTop (mkF m pcY L S))) (kN : ¬ x = 0 → Goes p e below s n0 kc ks Q (T.setTop (mkF m pcN L S))) : Goes p e below s n0 kc ks Q (T.setTop (mkF m pc L (.int x :: S))) := by
  obtain ⟨⟨hx, rfl, rfl, hown, hnm, rfl, hlk, hZ, hn0⟩, locs, X, rfl, N⟩ := P
  by_cases q : x = 0
  · exact (kY q).via fun t r => XS.ifYes X.here hx rfl (pc0 := pc) (pc' := pcY) rfl hd rfl ((if0 _ _).trans (teq q).1) ho hY r
  · subst hN
    exact (kN q).via fun t r => XS.ifNo X.here hx rfl hd rfl ((if0 _ _).trans (feq q).1) r
theorem icmp_ne (P : Pos Z y bytes maxL ret n0 p l e R s m args below meth c T h cells slots) {x z : Int32} {o : Int} (hd : decode bytes pc = .ok (.if_icmp .ne o, 3)) (ho : 0 ≤ (pc : Int) + o) (hY : ((pc : Int) + o).toNat = pcY) (hN : pc + 3 = pcN) (kY : ¬ x = z → Goes p e below s n0 kc ks Q (T.setTop (mkF m pcY L S))) (kN : x = z → Goes p e below s n0 kc ks Q (T.setTop (mkF m pcN L S))) : Goes p e below s n0 kc ks Q (T.setTop (mkF m pc L (.int z :: .int x :: S))) := by
  obtain ⟨⟨hx, rfl, rfl, hown, hnm, rfl, hlk, hZ, hn0⟩, locs, X, rfl, N⟩ := P
  by_cases q : x = z
  · subst hN
    exact (kN q).via fun t r => XS.icmpNo X.here hx rfl hd rfl (teq q).2 r
  · exact (kY q).via fun t r => XS.icmpYes X.here hx rfl (pc0 := pc) (pc' := pcY) rfl hd rfl (feq q).2 ho hY r
theorem if_ne (P : Pos Z y bytes maxL ret n0 p l e R s m args below meth c T h cells slots) {x : Int32} {o : Int} (hd : decode bytes pc = .ok (.ifCond .ne o, 3)) (ho : 0 ≤ (pc : Int) + o) (hY : ((pc : Int) + o).toNat = pcY) (hN : pc + 3 = pcN) (kY : ¬ x = 0 → Goes p e below s n0 kc ks Q (T.setTop (mkF m pcY L S))) (kN : x = 0 → Goes p e below s n0 kc ks Q (T.setTop (mkF m pcN L S))) : Goes p e below s n0 kc ks Q (T.setTop (mkF m pc L (.int x :: S))) := by
  obtain ⟨⟨hx, rfl, rfl, hown, hnm, rfl, hlk, hZ, hn0⟩, locs, X, rfl, N⟩ := P
  by_cases q : x = 0
  · subst hN
    exact (kN q).via fun t r => XS.ifNo X.here hx rfl hd rfl ((if0 _ _).trans (teq q).2) r
  · exact (kY q).via fun t r => XS.ifYes X.here hx rfl (pc0 := pc) (pc' := pcY) rfl hd rfl ((if0 _ _).trans (feq q).2) ho hY r
theorem lif_lt (P : Pos Z y bytes maxL ret n0 p l e R s m args below meth c T h cells slots) {x z : Int64} {o : Int} (hd : decode bytes pc = .ok (.ifCond .lt o, 3)) (ho : 0 ≤ (pc : Int) + o) (hY : ((pc : Int) + o).toNat = pcY) (hN : pc + 3 = pcN) (kY : x < z → Goes p e below s n0 kc ks Q (T.setTop (mkF m pcY L S))) (kN : ¬ x < z → Goes p e below s n0 kc ks Q (T.setTop (mkF m pcN L S))) : Goes p e below s n0 kc ks Q (T.setTop (mkF m pc L (.int (lcmpW x z) :: S))) :=
  if_lt P hd ho hY hN (fun q => kY ((lw_lt x z).mp q)) (fun q => kN (mt (lw_lt x z).mpr q))
theorem lif_ge (P : Pos Z y bytes maxL ret n0 p l e R s m args below meth c T h cells slots) {x z : Int64} {o : Int} (hd : decode bytes pc = .ok (.ifCond .ge o, 3)) (ho : 0 ≤ (pc : Int) + o) (hY : ((pc : Int) + o).toNat = pcY) (hN : pc + 3 = pcN) (kY : ¬ x < z → Goes p e below s n0 kc ks Q (T.setTop (mkF m pcY L S))) (kN : x < z → Goes p e below s n0 kc ks Q (T.setTop (mkF m pcN L S))) : Goes p e below s n0 kc ks Q (T.setTop (mkF m pc L (.int (lcmpW x z) :: S))) :=
  if_ge P hd ho hY hN (fun q => kY (mt (lw_lt x z).mpr q)) (fun q => kN ((lw_lt x z).mp q))
theorem lif_gt (P : Pos Z y bytes maxL ret n0 p l e R s m args below meth c T h cells slots) {x z : Int64} {o : Int} (hd : decode bytes pc = .ok (.ifCond .gt o, 3)) (ho : 0 ≤ (pc : Int) + o) (hY : ((pc : Int) + o).toNat = pcY) (hN : pc + 3 = pcN) (kY : z < x → Goes p e below s n0 kc ks Q (T.setTop (mkF m pcY L S))) (kN : ¬ z < x → Goes p e below s n0 kc ks Q (T.setTop (mkF m pcN L S))) : Goes p e below s n0 kc ks Q (T.setTop (mkF m pc L (.int (lcmpW x z) :: S))) :=
  if_gt P hd ho hY hN (fun q => kY ((lw_gt x z).mp q)) (fun q => kN (mt (lw_gt x z).mpr q))
theorem lif_le (P : Pos Z y bytes maxL ret n0 p l e R s m args below meth c T h cells slots) {x z : Int64} {o : Int} (hd : decode bytes pc = .ok (.ifCond .le o, 3)) (ho : 0 ≤ (pc : Int) + o) (hY : ((pc : Int) + o).toNat = pcY) (hN : pc + 3 = pcN) (kY : ¬ z < x → Goes p e below s n0 kc ks Q (T.setTop (mkF m pcY L S))) (kN : z < x → Goes p e below s n0 kc ks Q (T.setTop (mkF m pcN L S))) : Goes p e below s n0 kc ks Q (T.setTop (mkF m pc L (.int (lcmpW x z) :: S))) :=
  if_le P hd ho hY hN (fun q => kY (mt (lw_gt x z).mpr q)) (fun q => kN ((lw_gt x z).mp q))
theorem lif_eq (P : Pos Z y bytes maxL ret n0 p l e R s m args below meth c T h cells slots) {x z : Int64} {o : Int} (hd : decode bytes pc = .ok (.ifCond .eq o, 3)) (ho : 0 ≤ (pc : Int) + o) (hY : ((pc : Int) + o).toNat = pcY) (hN : pc + 3 = pcN) (kY : x = z → Goes p e below s n0 kc ks Q (T.setTop (mkF m pcY L S))) (kN : ¬ x = z → Goes p e below s n0 kc ks Q (T.setTop (mkF m pcN L S))) : Goes p e below s n0 kc ks Q (T.setTop (mkF m pc L (.int (lcmpW x z) :: S))) :=
  if_eq P hd ho hY hN (fun q => kY ((lw_eq x z).mp q)) (fun q => kN (mt (lw_eq x z).mpr q))
theorem lif_ne (P : Pos Z y bytes maxL ret n0 p l e R s m args below meth c T h cells slots) {x z : Int64} {o : Int} (hd : decode bytes pc = .ok (.ifCond .ne o, 3)) (ho : 0 ≤ (pc : Int) + o) (hY : ((pc : Int) + o).toNat = pcY) (hN : pc + 3 = pcN) (kY : ¬ x = z → Goes p e below s n0 kc ks Q (T.setTop (mkF m pcY L S))) (kN : x = z → Goes p e below s n0 kc ks Q (T.setTop (mkF m pcN L S))) : Goes p e below s n0 kc ks Q (T.setTop (mkF m pc L (.int (lcmpW x z) :: S))) :=
  if_ne P hd ho hY hN (fun q => kY (mt (lw_eq x z).mpr q)) (fun q => kN ((lw_eq x z).mp q))
theorem ldcI (P : Pos Z y bytes maxL ret n0 p l e R s m args below meth c T h cells slots) {i : Nat} {v : Int32} (w : (Jvm.Cond.constant y.cls i v).before a0 Z = true) (hd : decode bytes pc = .ok (.ldc i, 2)) (hp : pc + 2 = pc') (k : Goes p e below s n0 kc ks Q (T.setTop (mkF m pc' L (.int v :: S)))) : Goes p e below s n0 kc ks Q (T.setTop (mkF m pc L S)) := by
  obtain ⟨⟨hx, rfl, rfl, hown, hnm, rfl, hlk, hZ, hn0⟩, locs, X, rfl, N⟩ := P
  subst hp
  exact k.via fun t q => X.ldcInt hx hown (mvT hZ w) (g := mkF m pc L S) rfl hd _ q
theorem ldc2 (P : Pos Z y bytes maxL ret n0 p l e R s m args below meth c T h cells slots) {i : Nat} {v : Int64} (w : (Jvm.Cond.constantLong y.cls i v).before a0 Z = true) (hd : decode bytes pc = .ok (.ldc2_w i, 3)) (hp : pc + 3 = pc') (k : Goes p e below s n0 kc ks Q (T.setTop (mkF m pc' L (.long v :: S)))) : Goes p e below s n0 kc ks Q (T.setTop (mkF m pc L S)) := by
  obtain ⟨⟨hx, rfl, rfl, hown, hnm, rfl, hlk, hZ, hn0⟩, locs, X, rfl, N⟩ := P
  subst hp
  exact k.via fun t q => X.ldc2Long hx hown (mvT hZ w) (g := mkF m pc L S) rfl hd _ q
theorem ireturn (P : Pos Z y bytes maxL ret n0 p l e R s m args below meth c T h cells slots) {z : Int32} (hr' : ret = some .int) (hd : decode bytes pc = .ok (.ireturn, 1)) (hk1 : cells ≤ kc) (hk2 : slots ≤ ks) (hQ : Q (some (.int z)) h) : Goes p e below s n0 kc ks Q (T.setTop (mkF m pc L (.int z :: S))) := by
  obtain ⟨⟨hx, rfl, rfl, hown, hnm, rfl, hlk, hZ, hn0⟩, locs, X, rfl, N⟩ := P
  obtain ⟨fs, hr, hrun, hended, hW, hsame⟩ := X.leave (v := some (.int z)) (fun h => by rw [hr'] at h; cases h) (hlocks := hlk)
  exact ⟨_, _, retOut X hx hr' rfl (Or.inl ⟨rfl, Or.inl rfl, _, rfl⟩) hd hr, hrun, hended, _, _, rfl, ⟨hQ, N⟩, ⟨_, rfl⟩, hW, hsame.mono hk1 hk2⟩
theorem ireturnN (P : Pos Z y bytes maxL ret n0 p l e R s m args below meth c T h cells slots) {z z' : Int32} {t : FieldType} (hr' : ret = some t) (ht : t = .boolean ∨ t = .byte ∨ t = .char ∨ t = .short) (hz : nar t z = z') (hd : decode bytes pc = .ok (.ireturn, 1)) (hk1 : cells ≤ kc) (hk2 : slots ≤ ks) (hQ : Q (some (.int z')) h) : Goes p e below s n0 kc ks Q (T.setTop (mkF m pc L (.int z :: S))) := by
  obtain ⟨⟨hx, rfl, rfl, hown, hnm, rfl, hlk, hZ, hn0⟩, locs, X, rfl, N⟩ := P
  subst hz
  obtain ⟨fs, hr, hrun, hended, hW, hsame⟩ := X.leave (v := some (.int (nar t z))) (fun h => by rw [hr'] at h; cases h) (hlocks := hlk)
  exact ⟨_, _, retN X hx hr' ht hd hr, hrun, hended, _, _, rfl, ⟨hQ, N⟩, ⟨_, rfl⟩, hW, hsame.mono hk1 hk2⟩
theorem lreturn (P : Pos Z y bytes maxL ret n0 p l e R s m args below meth c T h cells slots) {z : Int64} (hr' : ret = some .long) (hd : decode bytes pc = .ok (.lreturn, 1)) (hk1 : cells ≤ kc) (hk2 : slots ≤ ks) (hQ : Q (some (.long z)) h) : Goes p e below s n0 kc ks Q (T.setTop (mkF m pc L (.long z :: S))) := by
  obtain ⟨⟨hx, rfl, rfl, hown, hnm, rfl, hlk, hZ, hn0⟩, locs, X, rfl, N⟩ := P
  obtain ⟨fs, hr, hrun, hended, hW, hsame⟩ := X.leave (v := some (.long z)) (fun h => by rw [hr'] at h; cases h) (hlocks := hlk)
  exact ⟨_, _, retOut X hx hr' rfl (Or.inr (Or.inl ⟨rfl, rfl, _, rfl⟩)) hd hr, hrun, hended, _, _, rfl, ⟨hQ, N⟩, ⟨_, rfl⟩, hW, hsame.mono hk1 hk2⟩
theorem areturn (P : Pos Z y bytes maxL ret n0 p l e R s m args below meth c T h cells slots) {v : Value} {t : FieldType} (hr' : ret = some t) (ht : t.isReference = true) (hv : v.isRef = true) (hn : narrow t v = v) (hd : decode bytes pc = .ok (.areturn, 1)) (hk1 : cells ≤ kc) (hk2 : slots ≤ ks) (hQ : Q (some v) h) : Goes p e below s n0 kc ks Q (T.setTop (mkF m pc L (v :: S))) := by
  obtain ⟨⟨hx, rfl, rfl, hown, hnm, rfl, hlk, hZ, hn0⟩, locs, X, rfl, N⟩ := P
  obtain ⟨fs, hr, hrun, hended, hW, hsame⟩ := X.leave (v := some v) (fun h => by rw [hr'] at h; cases h) (hlocks := hlk)
  exact ⟨_, _, retOut X hx hr' hn (Or.inr (Or.inr (Or.inr (Or.inr ⟨rfl, ht, hv⟩)))) hd hr, hrun, hended, _, _, rfl, ⟨hQ, N⟩, ⟨_, rfl⟩, hW, hsame.mono hk1 hk2⟩
theorem return_ (P : Pos Z y bytes maxL ret n0 p l e R s m args below meth c T h cells slots) (hr' : ret = none) (hd : decode bytes pc = .ok (.return_, 1)) (hk1 : cells ≤ kc) (hk2 : slots ≤ ks) (hQ : Q none h) : Goes p e below s n0 kc ks Q (T.setTop (mkF m pc L [])) := by
  obtain ⟨⟨hx, rfl, rfl, hown, hnm, rfl, hlk, hZ, hn0⟩, locs, X, rfl, N⟩ := P
  obtain ⟨fs, hr, hrun, hended, hW, hsame⟩ := X.leave (v := none) (fun _ => rfl) (hlocks := hlk)
  exact ⟨_, _, X.returnOut hx hr' hd hr, hrun, hended, _, _, rfl, ⟨hQ, N⟩, ⟨_, rfl⟩, hW, hsame.mono hk1 hk2⟩
theorem getF (P : Pos Z y bytes maxL ret n0 p l e R s m args below meth c T h cells slots) {R0 O n d host : String} {i : Nat} {a : Addr} {v : Value} (w : (Jvm.Cond.fieldLink y.cls i R0 n d).before a0 Z = true ∨ (Jvm.Cond.fieldLinkNest y.cls i R0 n d host).before a0 Z = true) (via : Via Z R0 O n d) (F : Fld Z h a O n d v) (hd : decode bytes pc = .ok (.getfield i, 3)) (hp : pc + 3 = pc') (k : ∀ T', Pos Z y bytes maxL ret n0 p l e R s m args below meth c T' h cells slots → Goes p e below s n0 kc ks Q (T'.setTop (mkF m pc' L (v :: S)))) : Goes p e below s n0 kc ks Q (T.setTop (mkF m pc L (.ref a :: S))) := by
  obtain ⟨⟨hx, rfl, rfl, hown, hnm, rfl, hlk, hZ, hn0⟩, locs, X, rfl, N⟩ := P
  subst hp
  obtain ⟨T', X', e', st⟩ := Jvm.RoadKit.getF X hx hZ hown w via rfl F (g := mkF m pc L (.ref a :: S)) rfl rfl hd
  exact (k T' ⟨⟨hx, rfl, rfl, hown, hnm, rfl, hlk, hZ, hn0⟩, locs, X', e', N⟩).via st
theorem putF (P : Pos Z y bytes maxL ret n0 p l e R s m args below meth c T h cells slots) {R0 O n d host C : String} {i kk : Nat} {ty : FieldType} {a : Addr} {v old : Value} (w : (Jvm.Cond.fieldLink y.cls i R0 n d).before a0 Z = true ∨ (Jvm.Cond.fieldLinkNest y.cls i R0 n d host).before a0 Z = true) (via : Via Z R0 O n d) (F : Fld Z h a O n d old) (E : Exa Z h a C) (W : (Jvm.Cond.lays C O n d).before a0 Z = true ∨ ((Jvm.Cond.laysFinal C O n d).before a0 Z = true ∧ y.cls = O ∧ y.name = "<init>")) (wi : (Jvm.Cond.instantiable C kk).before a0 Z = true) (hty : parseFieldDescriptor d = some ty) (hn : narrow ty v = v) (hf : fits ty v = true) (hg : n0 ≤ a) (hd : decode bytes pc = .ok (.putfield i, 3)) (hp : pc + 3 = pc') (k : ∀ T' h', Pos Z y bytes maxL ret n0 p l e R s m args below meth c T' h' cells slots → Wr h h' a (RoadKit.slotOf Z O n d) v → Goes p e below s n0 kc ks Q (T'.setTop (mkF m pc' L S))) : Goes p e below s n0 kc ks Q (T.setTop (mkF m pc L (v :: .ref a :: S))) := by
  obtain ⟨⟨hx, rfl, rfl, hown, hnm, rfl, hlk, hZ, hn0⟩, locs, X, rfl, N⟩ := P
  subst hp
  obtain ⟨T', h', X', e', W', st⟩ := Jvm.RoadKit.putF X hx hZ hown w via rfl F E (W.imp id fun q => ⟨q.1, q.2.1, hnm.trans q.2.2⟩) wi hty hn hf (g := mkF m pc L (v :: .ref a :: S)) rfl rfl hd
  exact (k T' h' ⟨⟨hx, rfl, rfl, hown, hnm, rfl, hlk, hZ, hn0⟩, _, X', e', Fr.snoc X' N hg⟩ W').via st
theorem new (P : Pos Z y bytes maxL ret n0 p l e R s m args below meth c T h cells slots) {C : String} {i n : Nat} {cells' slots' : Nat} (w : (Jvm.Cond.classLink y.cls i C).before a0 Z = true) (wi : (Jvm.Cond.instantiable C n).before a0 Z = true) (wz : (Jvm.Cond.initialized C).before a0 Z = true) (hd : decode bytes pc = .ok (.new i, 3)) (hc : cells + 1 = cells') (hs : slots + n = slots') (hc' : cells' ≤ R.cells) (hs' : slots' ≤ R.slots) (hp : pc + 3 = pc') (k : ∀ T' h' b, b = h.size → n0 ≤ b → Pos Z y bytes maxL ret n0 p l e R s m args below meth c T' h' cells' slots' → Ext h h' → Exa Z h' b C → (∀ {O nm d : String} {ty : FieldType}, Laid Z a0 C O nm d → parseFieldDescriptor d = some ty → Fld Z h' b O nm d (defaultValue ty)) → Goes p e below s n0 kc ks Q (T'.setTop (mkF m pc' L (.ref b :: S)))) : Goes p e below s n0 kc ks Q (T.setTop (mkF m pc L S)) := by
  obtain ⟨⟨hx, rfl, rfl, hown, hnm, rfl, hlk, hZ, hn0⟩, locs, X, rfl, N⟩ := P
  subst hp hc hs
  obtain ⟨T', h', X', e', E', A', D', -, st⟩ := newO X hx hZ hown w wi wz rfl (g := mkF m pc L S) rfl hd hc' hs'
  exact (k T' h' _ rfl (Nat.le_trans hn0 X.same.2.1) ⟨⟨hx, rfl, rfl, hown, hnm, rfl, hlk, hZ, hn0⟩, _, X', e', N⟩ E' A' D').via st
theorem initO (P : Pos Z y bytes maxL ret n0 p l e R s m args below meth c T h cells slots) {i W : Nat} {a : Addr} (w1 : (Jvm.Cond.methodLink y.cls i Lib.objectInit).before a0 Z = true) (w2 : (Jvm.Cond.instanceMethod Lib.objectInit).before a0 Z = true) (w3 : (Jvm.Cond.code Lib.objectInit ⟨#[0xb1]⟩ 1 none).before a0 Z = true) (hsz : L.size = maxL) (hd : decode bytes pc = .ok (.invokespecial i, 3)) (hf : 1 ≤ R.frames) (hW : (S.map fun v => v.category).sum ≤ W) (hl : W + 12 ≤ R.locals) (hp : pc + 3 = pc') (k : ∀ T', Pos Z y bytes maxL ret n0 p l e R s m args below meth c T' h cells slots → Goes p e below s n0 kc ks Q (T'.setTop (mkF m pc' L S))) : Goes p e below s n0 kc ks Q (T.setTop (mkF m pc L (.ref a :: S))) := by
  obtain ⟨⟨hx, rfl, rfl, hown, hnm, rfl, hlk, hZ, hn0⟩, locs, X, rfl, N⟩ := P
  subst hp
  obtain ⟨T', X', e', st⟩ := Jvm.RoadKit.initO X hx hZ hown w1 w2 w3 rfl (g := mkF m pc L (.ref a :: S)) rfl hsz rfl hd hf (W := W) (by have q0 := hW; show 2 * 0 + _ ≤ _; omega) hl
  exact (k T' ⟨⟨hx, rfl, rfl, hown, hnm, rfl, hlk, hZ, hn0⟩, locs, X', e', N⟩).via st
theorem callS (P : Pos Z y bytes maxL ret n0 p l e R s m args below meth c T h cells slots) {y' : MethodName} {bytes' : ByteArray} {maxL' : Nat} {ret' : Option FieldType} {rm : Room} {i W cells' slots' : Nat} {argsL rest : List Value} {Q' : Option Value → Heap → Prop} (w1 : (Jvm.Cond.methodLink y.cls i y').before a0 Z = true) (w2 : (Jvm.Cond.static y').before a0 Z = true) (w3 : (Jvm.Cond.initialized y'.cls).before a0 Z = true) (w4 : (Jvm.Cond.code y' bytes' maxL' ret').before a0 Z = true) (hy : y'.cls ≠ "java/lang/invoke/MethodHandle" ∧ y'.cls ≠ "java/lang/invoke/VarHandle") (K : Con l Z y' bytes' maxL' ret' rm n0 argsL.toArray h Q') (hf : rm.frames + 1 ≤ R.frames) (hl : W + (maxL' + 11) + rm.locals ≤ R.locals) (hc : cells + rm.cells = cells') (hs : slots + rm.slots = slots') (hc' : cells' ≤ R.cells) (hs' : slots' ≤ R.slots) (hlen : ∀ sig, parseMethodDescriptor y'.desc = some sig → argsL.length = sig.parameters.length) (hsz : L.size = maxL) (hst : S = argsL.reverse ++ rest) (hW : (rest.map fun v => v.category).sum ≤ W) (hd : decode bytes pc = .ok (.invokestatic i, 3)) (hp : pc + 3 = pc') (k : ∀ T' h' v, Pos Z y bytes maxL ret n0 p l e R s m args below meth c T' h' cells' slots' → Q' v h' → Goes p e below s n0 kc ks Q (T'.setTop (mkF m pc' L (v.toList ++ rest)))) : Goes p e below s n0 kc ks Q (T.setTop (mkF m pc L S)) := by
  obtain ⟨⟨hx, rfl, rfl, hown, hnm, rfl, hlk, hZ, hn0⟩, locs, X, rfl, N⟩ := P
  subst hp hc hs hst
  obtain ⟨v, _, ⟨T', L1, k1, n1⟩, -, X', ⟨Lc, ⟨hQ, hN⟩, l1, y1, z1⟩, st⟩ := Jvm.LawKit.callS X hx hown (mvT hZ w1) (mvT hZ w2) (mvT hZ w3) (mvT hZ w4) hy (backOf (W := W) (Q := fun v h L => Q' v h ∧ Fr n0 L) (K []) hZ w4 w3 hf hl) (g := mkF m pc L (argsL.reverse ++ rest)) rfl hsz (argsL := argsL) (rest := rest) hlen rfl (by have q0 := hW; show 2 * 0 + _ ≤ _; omega) hd (fun _ _ => ⟨rfl, rfl, hc', hs'⟩)
  dsimp only [Pt.U, Pt.locs, Pt.cells, Pt.slots] at X' l1 y1 z1 st hQ
  subst l1 y1 z1
  exact (k T' _ v ⟨⟨hx, rfl, rfl, hown, hnm, rfl, hlk, hZ, hn0⟩, _, X', rfl, Fr.app N hN⟩ hQ).via st
theorem callI (P : Pos Z y bytes maxL ret n0 p l e R s m args below meth c T h cells slots) {y' : MethodName} {bytes' : ByteArray} {maxL' : Nat} {rm : Room} {i W cells' slots' : Nat} {argsL rest : List Value} {Q' : Option Value → Heap → Prop} {a : Addr} (hy1 : y'.name = "<init>") (w1 : (Jvm.Cond.methodLink y.cls i y').before a0 Z = true) (w2 : (Jvm.Cond.instanceMethod y').before a0 Z = true) (w3 : (Jvm.Cond.initialized y'.cls).before a0 Z = true) (w4 : (Jvm.Cond.code y' bytes' maxL' none).before a0 Z = true) (hy : y'.cls ≠ "java/lang/invoke/MethodHandle" ∧ y'.cls ≠ "java/lang/invoke/VarHandle") (K : Con l Z y' bytes' maxL' none rm n0 (.ref a :: argsL).toArray h Q') (hf : rm.frames + 1 ≤ R.frames) (hl : W + (maxL' + 11) + rm.locals ≤ R.locals) (hc : cells + rm.cells = cells') (hs : slots + rm.slots = slots') (hc' : cells' ≤ R.cells) (hs' : slots' ≤ R.slots) (hlen : ∀ sig, parseMethodDescriptor y'.desc = some sig → argsL.length = sig.parameters.length) (hsz : L.size = maxL) (hst : S = argsL.reverse ++ .ref a :: rest) (hW : (rest.map fun v => v.category).sum ≤ W) (hd : decode bytes pc = .ok (.invokespecial i, 3)) (hp : pc + 3 = pc') (k : ∀ T' h' v, Pos Z y bytes maxL ret n0 p l e R s m args below meth c T' h' cells' slots' → Q' v h' → Goes p e below s n0 kc ks Q (T'.setTop (mkF m pc' L (v.toList ++ rest)))) : Goes p e below s n0 kc ks Q (T.setTop (mkF m pc L S)) := by
  obtain ⟨⟨hx, rfl, rfl, hown, hnm, rfl, hlk, hZ, hn0⟩, locs, X, rfl, N⟩ := P
  subst hp hc hs hst
  obtain ⟨v, _, ⟨T', L1, k1, n1⟩, -, X', ⟨Lc, ⟨hQ, hN⟩, l1, y1, z1⟩, st⟩ := X.specialBack hx hy1 hown (mvT hZ w1) (mvT hZ w2) (mvT hZ w4) hy (backOf (W := W) (Q := fun v h L => Q' v h ∧ Fr n0 L) (K []) hZ w4 w3 hf hl) (g := mkF m pc L (argsL.reverse ++ .ref a :: rest)) rfl hsz (Steps.refl _) (a := a) (argsL := argsL) (rest := rest) hlen rfl (by have q0 := hW; show 2 * 0 + _ ≤ _; omega) hd (fun _ _ => ⟨rfl, rfl, hc', hs'⟩)
  dsimp only [Pt.U, Pt.locs, Pt.cells, Pt.slots] at X' l1 y1 z1 st hQ
  subst l1 y1 z1
  exact (k T' _ v ⟨⟨hx, rfl, rfl, hown, hnm, rfl, hlk, hZ, hn0⟩, _, X', rfl, Fr.app N hN⟩ hQ).via fun _ q => st.trans q
theorem callV (P : Pos Z y bytes maxL ret n0 p l e R s m args below meth c T h cells slots) {y' : MethodName} {bytes' : ByteArray} {maxL' : Nat} {ret' : Option FieldType} {rm : Room} {i W cells' slots' : Nat} {argsL rest : List Value} {Q' : Option Value → Heap → Prop} {a : Addr} {C : String} (w1 : (Jvm.Cond.methodLink y.cls i y').before a0 Z = true) (w2 : (Jvm.Cond.declares y').before a0 Z = true) (w5 : (Jvm.Cond.selects C y' y').before a0 Z = true) (w6 : (Jvm.Cond.instanceMethod y').before a0 Z = true) (w3 : (Jvm.Cond.initialized y'.cls).before a0 Z = true) (w4 : (Jvm.Cond.code y' bytes' maxL' ret').before a0 Z = true) (hy : y'.cls ≠ "java/lang/invoke/MethodHandle" ∧ y'.cls ≠ "java/lang/invoke/VarHandle") (E : Exa Z h a C) (K : Con l Z y' bytes' maxL' ret' rm n0 (.ref a :: argsL).toArray h Q') (hf : rm.frames + 1 ≤ R.frames) (hl : W + (maxL' + 11) + rm.locals ≤ R.locals) (hc : cells + rm.cells = cells') (hs : slots + rm.slots = slots') (hc' : cells' ≤ R.cells) (hs' : slots' ≤ R.slots) (hlen : ∀ sig, parseMethodDescriptor y'.desc = some sig → argsL.length = sig.parameters.length) (hsz : L.size = maxL) (hst : S = argsL.reverse ++ .ref a :: rest) (hW : (rest.map fun v => v.category).sum ≤ W) (hd : decode bytes pc = .ok (.invokevirtual i, 3)) (hp : pc + 3 = pc') (k : ∀ T' h' v, Pos Z y bytes maxL ret n0 p l e R s m args below meth c T' h' cells' slots' → Q' v h' → Goes p e below s n0 kc ks Q (T'.setTop (mkF m pc' L (v.toList ++ rest)))) : Goes p e below s n0 kc ks Q (T.setTop (mkF m pc L S)) := by
  obtain ⟨⟨hx, rfl, rfl, hown, hnm, rfl, hlk, hZ, hn0⟩, locs, X, rfl, N⟩ := P
  obtain ⟨cq, kq, qa, qb, qc⟩ := isOf (T := T) hZ rfl E
  subst hp hc hs hst
  obtain ⟨v, _, ⟨T', L1, k1, n1⟩, -, X', ⟨Lc, ⟨hQ, hN⟩, l1, y1, z1⟩, st⟩ := X.virtualBack hx (y := y') (z := y') hown (mvT hZ w1) (mvT hZ w2) (notFace_of_selects (args := #[]) (mvT hZ w5)) (mvT hZ w5) (mvT hZ w6) hy (backOf (W := W) (Q := fun v h L => Q' v h ∧ Fr n0 L) (K []) hZ w4 w3 hf hl) qa qc (g := mkF m pc L (argsL.reverse ++ .ref a :: rest)) rfl hsz (Steps.refl _) (argsL := argsL) (rest := rest) hlen rfl (by have q0 := hW; show 2 * 0 + _ ≤ _; omega) hd (fun _ _ => ⟨rfl, rfl, hc', hs'⟩)
  dsimp only [Pt.U, Pt.locs, Pt.cells, Pt.slots] at X' l1 y1 z1 st hQ
  subst l1 y1 z1
  exact (k T' _ v ⟨⟨hx, rfl, rfl, hown, hnm, rfl, hlk, hZ, hn0⟩, _, X', rfl, Fr.app N hN⟩ hQ).via fun _ q => st.trans q
theorem callP (P : Pos Z y bytes maxL ret n0 p l e R s m args below meth c T h cells slots) {y' : MethodName} {bytes' : ByteArray} {maxL' : Nat} {ret' : Option FieldType} {rm : Room} {i W cells' slots' : Nat} {argsL rest : List Value} {Q' : Option Value → Heap → Prop} {a : Addr} {C : String} (w1 : (Jvm.Cond.methodLink y.cls i y').before a0 Z = true) {kk : Nat} (wi : (Jvm.Cond.instantiable y'.cls kk).before a0 Z = true) (w6 : (Jvm.Cond.instanceMethod y').before a0 Z = true) (w7 : (Jvm.Cond.privateMethod y').before a0 Z = true) (w3 : (Jvm.Cond.initialized y'.cls).before a0 Z = true) (w4 : (Jvm.Cond.code y' bytes' maxL' ret').before a0 Z = true) (hy : y'.cls ≠ "java/lang/invoke/MethodHandle" ∧ y'.cls ≠ "java/lang/invoke/VarHandle") (E : Exa Z h a C) (K : Con l Z y' bytes' maxL' ret' rm n0 (.ref a :: argsL).toArray h Q') (hf : rm.frames + 1 ≤ R.frames) (hl : W + (maxL' + 11) + rm.locals ≤ R.locals) (hc : cells + rm.cells = cells') (hs : slots + rm.slots = slots') (hc' : cells' ≤ R.cells) (hs' : slots' ≤ R.slots) (hlen : ∀ sig, parseMethodDescriptor y'.desc = some sig → argsL.length = sig.parameters.length) (hsz : L.size = maxL) (hst : S = argsL.reverse ++ .ref a :: rest) (hW : (rest.map fun v => v.category).sum ≤ W) (hd : decode bytes pc = .ok (.invokevirtual i, 3)) (hp : pc + 3 = pc') (k : ∀ T' h' v, Pos Z y bytes maxL ret n0 p l e R s m args below meth c T' h' cells' slots' → Q' v h' → Goes p e below s n0 kc ks Q (T'.setTop (mkF m pc' L (v.toList ++ rest)))) : Goes p e below s n0 kc ks Q (T.setTop (mkF m pc L S)) := by
  obtain ⟨⟨hx, rfl, rfl, hown, hnm, rfl, hlk, hZ, hn0⟩, locs, X, rfl, N⟩ := P
  obtain ⟨cq, q1, q2⟩ := E.cell
  obtain ⟨ci, ki, j1, j2, -, j3, -⟩ := Cond.instantiable_spec wi
  have w5 : (Jvm.Cond.selects y'.cls y' y').before a0 Z = true := selects_self_of_private j1 j2 (by simp only [Bool.or_eq_false_iff] at j3; exact j3.1) (Cond.privateMethod_at w7) w6 hy
  subst hp hc hs hst
  obtain ⟨v, _, ⟨T', L1, k1, n1⟩, -, X', ⟨Lc, ⟨hQ, hN⟩, l1, y1, z1⟩, st⟩ := X.privateBack hx (y := y') hown (mvT hZ w1) (mvT hZ w6) (mvT hZ w5) (Cond.privateMethod_at (mvP hZ w7 (args := #[]))) (mvT hZ w4) hy (backOf (W := W) (Q := fun v h L => Q' v h ∧ Fr n0 L) (K []) hZ w4 w3 hf hl) (g := mkF m pc L (argsL.reverse ++ .ref a :: rest)) rfl hsz (Steps.refl _) (a := a) q1 q2 (argsL := argsL) (rest := rest) hlen rfl (by have q0 := hW; show 2 * 0 + _ ≤ _; omega) hd (fun _ _ => ⟨rfl, rfl, hc', hs'⟩)
  dsimp only [Pt.U, Pt.locs, Pt.cells, Pt.slots] at X' l1 y1 z1 st hQ
  subst l1 y1 z1
  exact (k T' _ v ⟨⟨hx, rfl, rfl, hown, hnm, rfl, hlk, hZ, hn0⟩, _, X', rfl, Fr.app N hN⟩ hQ).via fun _ q => st.trans q
end Plain
end G
/-- an array at a: n places, the i-th holds the int f i -/
def Ints (Z : State) (h : Heap) (a : Addr) (ty : FieldType) (n : Nat) (f : Nat → Int32) : Prop := n < 2 ^ 31 ∧ ∃ c : Cell, Arr Z h a c ty ∧ c.slots.size = n ∧ ∀ i, i < n → c.slots[i]? = some (.int (f i))
def oupd (f : Nat → Int32) (i : Nat) (x : Int32) : Nat → Int32 := fun k => if k = i then x else f k
def lst (l : List Int32) : Nat → Int32 := fun i => l.getD i 0
section Arrays
variable {Z : State} {h h' : Heap} {a b : Addr} {ty : FieldType} {n : Nat} {f : Nat → Int32} {sl : Nat} {v : Value} {ws : List Addr}
theorem Ints.lt (A : Ints Z h a ty n f) : a < h.size := by obtain ⟨_, c, A, -⟩ := A; exact A.lt
theorem Ints.ext (A : Ints Z h a ty n f) (E : Ext h h') : Ints Z h' a ty n f := by obtain ⟨q, c, A, r⟩ := A; exact ⟨q, c, A.ext E, r⟩
theorem Ints.other (A : Ints Z h b ty n f) (W : Wr h h' a sl v) (q : b ≠ a) : Ints Z h' b ty n f := by obtain ⟨r, c, A, r'⟩ := A; exact ⟨r, c, A.other W q, r'⟩
theorem Ints.keep (A : Ints Z h a ty n f) (K : Keep h h' ws) (q : a ∉ ws) : Ints Z h' a ty n f := by obtain ⟨r, c, A, r'⟩ := A; exact ⟨r, c, ⟨K.2.1 a c A.1 q, A.2⟩, r'⟩
theorem Ints.congr {g : Nat → Int32} (A : Ints Z h a ty n f) (q : ∀ i, i < n → f i = g i) : Ints Z h a ty n g := by obtain ⟨r, c, A, s, r'⟩ := A; exact ⟨r, c, A, s, fun i hi => by rw [r' i hi, q i hi]⟩
theorem Ints.same {i : Nat} {x : Int32} (A : Ints Z h a ty n f) (W : Wr h h' a i (.int x)) : Ints Z h' a ty n (oupd f i x) := by
  obtain ⟨q, c, A, s, r⟩ := A
  refine ⟨q, _, A.same W, (sz_set _ _ _).trans s, fun j hj => ?_⟩
  show (c.slots.setIfInBounds i (.int x))[j]? = _
  by_cases e : j = i
  · subst e
    rw [Array.getElem?_setIfInBounds_self_of_lt (by omega)]
    simp [oupd]
  · rw [Array.getElem?_setIfInBounds_ne (Ne.symm e), r j hj]
    simp [oupd, e]
theorem idx {j : Int32} {i : Nat} (hj : j.toInt = (i : Int)) : ¬ j < 0 ∧ j.toNatClampNeg = i := by
  have q : ¬ j < 0 := by rw [Int32.lt_iff_toInt_lt, hj]; show ¬ ((i : Int) < 0); omega
  have r := nat_of q
  exact ⟨q, by omega⟩
theorem idx_in' {j : Int32} {i : Nat} {c : Cell} (hj : j.toInt = (i : Int)) (hi : i < c.slots.size) : ¬ (j < 0 ∨ c.slots.size ≤ j.toNatClampNeg) := by
  obtain ⟨q, r⟩ := idx hj
  rw [r]
  rintro (s | s)
  · exact q s
  · omega
end Arrays
namespace G
section Plain
variable {Z : State} {y : MethodName} {bytes : ByteArray} {maxL : Nat} {ret : Option FieldType} {n0 : Nat} {p : Program} {l : Launch} {e : Env} {R : Room} {s : State} {m : MethodId} {args : Array Value} {below : List Frame} {meth : Method} {c : Code} {T : State} {h : Heap} {cells slots kc ks : Nat} {Q : Option Value → Heap → Prop} {pc pc' pcY pcN : Nat} {L L' : Array Slot} {S : List Value} {a0 : Array Value}
theorem iaload (P : Pos Z y bytes maxL ret n0 p l e R s m args below meth c T h cells slots) {a : Addr} {n i : Nat} {f : Nat → Int32} {j : Int32} (A : Ints Z h a .int n f) (hj : j.toInt = (i : Int)) (hi : i < n) (hd : decode bytes pc = .ok (.iaload, 1)) (hp : pc + 1 = pc') (k : Goes p e below s n0 kc ks Q (T.setTop (mkF m pc' L (.int (f i) :: S)))) : Goes p e below s n0 kc ks Q (T.setTop (mkF m pc L (.int j :: .ref a :: S))) := by
  obtain ⟨⟨hx, rfl, rfl, hown, hnm, rfl, hlk, hZ, hn0⟩, locs, X, rfl, N⟩ := P
  subst hp
  obtain ⟨-, cl, Ar, sz, r⟩ := A
  exact k.via fun t q => X.iaload hx (j := j) (v := .int (f i)) Ar.1 (State.isArrayOf_alike hZ.alike Ar.2.1) Ar.2.2 (idx_in' hj (by omega)) (by rw [(idx hj).2]; exact r i hi) (g := mkF m pc L (.int j :: .ref a :: S)) rfl rfl hd _ q
theorem baload (P : Pos Z y bytes maxL ret n0 p l e R s m args below meth c T h cells slots) {a : Addr} {n i : Nat} {f : Nat → Int32} {j : Int32} (A : Ints Z h a .byte n f) (hj : j.toInt = (i : Int)) (hi : i < n) (hd : decode bytes pc = .ok (.baload, 1)) (hp : pc + 1 = pc') (k : Goes p e below s n0 kc ks Q (T.setTop (mkF m pc' L (.int (f i) :: S)))) : Goes p e below s n0 kc ks Q (T.setTop (mkF m pc L (.int j :: .ref a :: S))) := by
  obtain ⟨⟨hx, rfl, rfl, hown, hnm, rfl, hlk, hZ, hn0⟩, locs, X, rfl, N⟩ := P
  subst hp
  obtain ⟨-, cl, Ar, sz, r⟩ := A
  exact k.via fun t q => X.baloadBytes hx (j := j) (v := .int (f i)) Ar.1 (State.isArrayOf_alike hZ.alike Ar.2.1) Ar.2.2 (idx_in' hj (by omega)) (by rw [(idx hj).2]; exact r i hi) (g := mkF m pc L (.int j :: .ref a :: S)) rfl rfl hd _ q
theorem zaload (P : Pos Z y bytes maxL ret n0 p l e R s m args below meth c T h cells slots) {a : Addr} {n i : Nat} {f : Nat → Int32} {j : Int32} (A : Ints Z h a .boolean n f) (hj : j.toInt = (i : Int)) (hi : i < n) (hd : decode bytes pc = .ok (.baload, 1)) (hp : pc + 1 = pc') (k : Goes p e below s n0 kc ks Q (T.setTop (mkF m pc' L (.int (f i) :: S)))) : Goes p e below s n0 kc ks Q (T.setTop (mkF m pc L (.int j :: .ref a :: S))) := by
  obtain ⟨⟨hx, rfl, rfl, hown, hnm, rfl, hlk, hZ, hn0⟩, locs, X, rfl, N⟩ := P
  subst hp
  obtain ⟨-, cl, Ar, sz, r⟩ := A
  exact k.via fun t q => X.baloadBooleans hx (j := j) (v := .int (f i)) Ar.1 (State.isArrayOf_alike hZ.alike Ar.2.1) Ar.2.2 (idx_in' hj (by omega)) (by rw [(idx hj).2]; exact r i hi) (g := mkF m pc L (.int j :: .ref a :: S)) rfl rfl hd _ q
theorem iastore (P : Pos Z y bytes maxL ret n0 p l e R s m args below meth c T h cells slots) {a : Addr} {n i : Nat} {f : Nat → Int32} {j x : Int32} (A : Ints Z h a .int n f) (hj : j.toInt = (i : Int)) (hi : i < n) (hg : n0 ≤ a) (hd : decode bytes pc = .ok (.iastore, 1)) (hp : pc + 1 = pc') (k : ∀ T' h', Pos Z y bytes maxL ret n0 p l e R s m args below meth c T' h' cells slots → Wr h h' a i (.int (x)) → Goes p e below s n0 kc ks Q (T'.setTop (mkF m pc' L S))) : Goes p e below s n0 kc ks Q (T.setTop (mkF m pc L (.int x :: .int j :: .ref a :: S))) := by
  obtain ⟨⟨hx, rfl, rfl, hown, hnm, rfl, hlk, hZ, hn0⟩, locs, X, rfl, N⟩ := P
  subst hp
  obtain ⟨-, cl, Ar, sz, r⟩ := A
  obtain ⟨T', h', X', e', W', st⟩ := stI X hx hZ rfl Ar (j := j) (x := x) (idx_in' hj (by omega)) (g := mkF m pc L (.int x :: .int j :: .ref a :: S)) rfl rfl hd
  have hP := Fr.snoc X' N hg
  rw [(idx hj).2] at W'
  exact (k T' h' ⟨⟨hx, rfl, rfl, hown, hnm, rfl, hlk, hZ, hn0⟩, _, X', e', hP⟩ W').via st
theorem bastore (P : Pos Z y bytes maxL ret n0 p l e R s m args below meth c T h cells slots) {a : Addr} {n i : Nat} {f : Nat → Int32} {j x : Int32} (A : Ints Z h a .byte n f) (hj : j.toInt = (i : Int)) (hi : i < n) (hg : n0 ≤ a) (hd : decode bytes pc = .ok (.bastore, 1)) (hp : pc + 1 = pc') (k : ∀ T' h', Pos Z y bytes maxL ret n0 p l e R s m args below meth c T' h' cells slots → Wr h h' a i (.int (nar .byte x)) → Goes p e below s n0 kc ks Q (T'.setTop (mkF m pc' L S))) : Goes p e below s n0 kc ks Q (T.setTop (mkF m pc L (.int x :: .int j :: .ref a :: S))) := by
  obtain ⟨⟨hx, rfl, rfl, hown, hnm, rfl, hlk, hZ, hn0⟩, locs, X, rfl, N⟩ := P
  subst hp
  obtain ⟨-, cl, Ar, sz, r⟩ := A
  obtain ⟨T', h', X', e', W', st⟩ := stB X hx hZ rfl Ar (j := j) (x := x) (idx_in' hj (by omega)) (g := mkF m pc L (.int x :: .int j :: .ref a :: S)) rfl rfl hd
  have hP := Fr.snoc X' N hg
  rw [(idx hj).2] at W'
  exact (k T' h' ⟨⟨hx, rfl, rfl, hown, hnm, rfl, hlk, hZ, hn0⟩, _, X', e', hP⟩ W').via st
theorem zastore (P : Pos Z y bytes maxL ret n0 p l e R s m args below meth c T h cells slots) {a : Addr} {n i : Nat} {f : Nat → Int32} {j x : Int32} (A : Ints Z h a .boolean n f) (hj : j.toInt = (i : Int)) (hi : i < n) (hg : n0 ≤ a) (hd : decode bytes pc = .ok (.bastore, 1)) (hp : pc + 1 = pc') (k : ∀ T' h', Pos Z y bytes maxL ret n0 p l e R s m args below meth c T' h' cells slots → Wr h h' a i (.int (nar .boolean x)) → Goes p e below s n0 kc ks Q (T'.setTop (mkF m pc' L S))) : Goes p e below s n0 kc ks Q (T.setTop (mkF m pc L (.int x :: .int j :: .ref a :: S))) := by
  obtain ⟨⟨hx, rfl, rfl, hown, hnm, rfl, hlk, hZ, hn0⟩, locs, X, rfl, N⟩ := P
  subst hp
  obtain ⟨-, cl, Ar, sz, r⟩ := A
  obtain ⟨T', h', X', e', W', st⟩ := stZ X hx hZ rfl Ar (j := j) (x := x) (idx_in' hj (by omega)) (g := mkF m pc L (.int x :: .int j :: .ref a :: S)) rfl rfl hd
  have hP := Fr.snoc X' N hg
  rw [(idx hj).2] at W'
  exact (k T' h' ⟨⟨hx, rfl, rfl, hown, hnm, rfl, hlk, hZ, hn0⟩, _, X', e', hP⟩ W').via st
theorem arraylength (P : Pos Z y bytes maxL ret n0 p l e R s m args below meth c T h cells slots) {a : Addr} {n : Nat} {f : Nat → Int32} {ty : FieldType} {z : Int32} (A : Ints Z h a ty n f) (hz : z.toInt = (n : Int)) (hd : decode bytes pc = .ok (.arraylength, 1)) (hp : pc + 1 = pc') (k : Goes p e below s n0 kc ks Q (T.setTop (mkF m pc' L (.int z :: S)))) : Goes p e below s n0 kc ks Q (T.setTop (mkF m pc L (.ref a :: S))) := by
  obtain ⟨⟨hx, rfl, rfl, hown, hnm, rfl, hlk, hZ, hn0⟩, locs, X, rfl, N⟩ := P
  subst hp
  obtain ⟨hn, cl, Ar, sz, r⟩ := A
  have e' : cl.slots.size.toInt32 = z := by rw [sz, ← (idx hz).2]; exact (back32 (idx hz).1).1
  exact k.via fun t q => X.arraylength hx Ar.1 (State.isArrayOf_alike hZ.alike Ar.2.1) (g := mkF m pc L (.ref a :: S)) rfl rfl hd _ (by rw [e']; exact q)
theorem newarray (P : Pos Z y bytes maxL ret n0 p l e R s m args below meth c T h cells slots) {aty : ArrayType} {z : Int32} {N cap cells' slots' : Nat} (w : (Jvm.Cond.arrayClass (newarray.typeOf aty)).before a0 Z = true) (hdv : defaultValue (newarray.typeOf aty) = .int 0) (hz : z.toInt = (N : Int)) (hcap : N ≤ cap) (hb : cap * 8 ≤ 536870912) (hd : decode bytes pc = .ok (.newarray aty, 2)) (hc : cells + 1 = cells') (hs : slots + cap = slots') (hc' : cells' ≤ R.cells) (hs' : slots' ≤ R.slots) (hp : pc + 2 = pc') (k : ∀ T' h' b, b = h.size → n0 ≤ b → Pos Z y bytes maxL ret n0 p l e R s m args below meth c T' h' cells' slots' → Ext h h' → Ints Z h' b (newarray.typeOf aty) N (fun _ => 0) → Goes p e below s n0 kc ks Q (T'.setTop (mkF m pc' L (.ref b :: S)))) : Goes p e below s n0 kc ks Q (T.setTop (mkF m pc L (.int z :: S))) := by
  obtain ⟨⟨hx, rfl, rfl, hown, hnm, rfl, hlk, hZ, hn0⟩, locs, X, rfl, NF⟩ := P
  subst hp hc hs
  obtain ⟨q1, q2⟩ := idx hz
  obtain ⟨T', h', cA, X', e', E', A', st⟩ := newP X hx hZ w rfl (g := mkF m pc L (.int z :: S)) rfl hd rfl q1 (cap := cap) (by omega) hb hc' hs'
  have h32 := (back32 q1).2
  refine (k T' h' _ rfl (Nat.le_trans hn0 X.same.2.1) ⟨⟨hx, rfl, rfl, hown, hnm, rfl, hlk, hZ, hn0⟩, _, X', e', NF⟩ E' ⟨by omega, _, A', by rw [sz_new]; exact q2, fun i hi => ?_⟩).via st
  show (Array.replicate z.toNatClampNeg (defaultValue _))[i]? = some (.int 0)
  rw [hdv, Array.getElem?_replicate, if_pos (by omega)]
theorem top {x x' : Int32} (h : x = x') (k : Goes p e below s n0 kc ks Q (T.setTop (mkF m pc L (.int x' :: S)))) : Goes p e below s n0 kc ks Q (T.setTop (mkF m pc L (.int x :: S))) := by subst h; exact k
theorem topL {x x' : Int64} (h : x = x') (k : Goes p e below s n0 kc ks Q (T.setTop (mkF m pc L (.long x' :: S)))) : Goes p e below s n0 kc ks Q (T.setTop (mkF m pc L (.long x :: S))) := by subst h; exact k
theorem top1 {x x' : Int32} {u : Value} (h : x = x') (k : Goes p e below s n0 kc ks Q (T.setTop (mkF m pc L (u :: .int x' :: S)))) : Goes p e below s n0 kc ks Q (T.setTop (mkF m pc L (u :: .int x :: S))) := by subst h; exact k
theorem lswHit (P : Pos Z y bytes maxL ret n0 p l e R s m args below meth c T h cells slots) {x : Int32} {df a off : Int} {pairs : Array (Int × Int)} {len : Nat} (hd : decode bytes pc = .ok (.lookupswitch df pairs, len)) (hs : (pairs.toList.zip (pairs.toList.drop 1)).all (fun (a, next) => a.1 < next.1) = true) (hf : pairs.find? (·.1 == x.toInt) = some (a, off)) (ho : 0 ≤ (pc : Int) + off) (hp : ((pc : Int) + off).toNat = pc') (k : Goes p e below s n0 kc ks Q (T.setTop (mkF m pc' L S))) : Goes p e below s n0 kc ks Q (T.setTop (mkF m pc L (.int x :: S))) := by
  obtain ⟨⟨hx, rfl, rfl, hown, hnm, rfl, hlk, hZ, hn0⟩, locs, X, rfl, N⟩ := P
  subst hp
  exact k.via fun t q => X.lookupswitchHit hx (g := mkF m pc L (.int x :: S)) rfl rfl hd hs hf ho _ q
theorem lswMiss (P : Pos Z y bytes maxL ret n0 p l e R s m args below meth c T h cells slots) {x : Int32} {df : Int} {pairs : Array (Int × Int)} {len : Nat} (hd : decode bytes pc = .ok (.lookupswitch df pairs, len)) (hs : (pairs.toList.zip (pairs.toList.drop 1)).all (fun (a, next) => a.1 < next.1) = true) (hf : ∀ q ∈ pairs.toList, q.1 ≠ x.toInt) (ho : 0 ≤ (pc : Int) + df) (hp : ((pc : Int) + df).toNat = pc') (k : Goes p e below s n0 kc ks Q (T.setTop (mkF m pc' L S))) : Goes p e below s n0 kc ks Q (T.setTop (mkF m pc L (.int x :: S))) := by
  obtain ⟨⟨hx, rfl, rfl, hown, hnm, rfl, hlk, hZ, hn0⟩, locs, X, rfl, N⟩ := P
  subst hp
  exact k.via fun t q => X.lookupswitchMiss hx (g := mkF m pc L (.int x :: S)) rfl rfl hd hs (find_miss hf) ho _ q
theorem tswIn (P : Pos Z y bytes maxL ret n0 p l e R s m args below meth c T h cells slots) {x : Int32} {df lo hi off : Int} {offs : Array Int} {len : Nat} (hd : decode bytes pc = .ok (.tableswitch df lo hi offs, len)) (hin : ¬ (x.toInt < lo ∨ x.toInt > hi)) (hf : offs[(x.toInt - lo).toNat]? = some off) (ho : 0 ≤ (pc : Int) + off) (hp : ((pc : Int) + off).toNat = pc') (k : Goes p e below s n0 kc ks Q (T.setTop (mkF m pc' L S))) : Goes p e below s n0 kc ks Q (T.setTop (mkF m pc L (.int x :: S))) := by
  obtain ⟨⟨hx, rfl, rfl, hown, hnm, rfl, hlk, hZ, hn0⟩, locs, X, rfl, N⟩ := P
  exact k.via fun t q => XS.tswIn X.here hx rfl (pc0 := pc) (pc' := pc') rfl hd rfl hin hf ho hp q
end Plain
end G
end Jvm.OwnW
namespace Jvm.Pilot.@@N@@
open Jvm Jvm.ClassFile Sem Op Lib Jvm.Free Jvm.Stand Jvm.LawKit Jvm.RoadKit Jvm.OwnW Bundle Jvm.Pilot.@@N@@.Jvm.D
theorem wd {Z : State} {a0 : Array Value} (hw : ∀ d ∈ tables_1, d.before a0 Z = true) {i : Nat} {d : Jvm.Cond} (h : tables_1[i]? = some d) : d.before a0 Z = true := hw _ (List.mem_of_getElem? h)
def ObSR (Z : State) (h : Heap) (a : Addr) (v0 : Value) : Prop := Exa Z h a "com/example/routewright/routewright/SearchRandom" ∧ Fld Z h a "com/example/routewright/routewright/SearchRandom" "state" "J" v0
theorem ObSR.lt {Z : State} {h : Heap} {a : Addr} {v0 : Value} (O : ObSR Z h a v0) : a < h.size := O.1.lt
theorem ObSR.ext {Z : State} {h h' : Heap} {a : Addr} {v0 : Value} (O : ObSR Z h a v0) (E : Ext h h') : ObSR Z h' a v0 := ⟨O.1.ext E, O.2.ext E⟩
theorem ObSR.other {Z : State} {h h' : Heap} {a b : Addr} {sl : Nat} {v : Value} {v0 : Value} (O : ObSR Z h b v0) (W : Wr h h' a sl v) (q : b ≠ a) : ObSR Z h' b v0 := ⟨O.1.wr W, O.2.other W (Or.inl q)⟩
theorem ObSR.keep {Z : State} {h h' : Heap} {a : Addr} {ws : List Addr} {v0 : Value} (O : ObSR Z h a v0) (K : Keep h h' ws) (q : a ∉ ws) : ObSR Z h' a v0 := ⟨O.1.keep K, O.2.keep K q⟩
theorem ObSR.put0 {Z : State} {h h' : Heap} {a : Addr} {v : Value} {a0 : Array Value} {v0 : Value} (hw : ∀ d ∈ tables_1, d.before a0 Z = true) (O : ObSR Z h a v0) (W : Wr h h' a (RoadKit.slotOf Z "com/example/routewright/routewright/SearchRandom" "state" "J") v) : ObSR Z h' a v := ⟨O.1.wr W, O.2.same W⟩
theorem ObSR.new {Z : State} {h : Heap} {a : Addr} {a0 : Array Value} (hw : ∀ d ∈ tables_1, d.before a0 Z = true) (A : Exa Z h a "com/example/routewright/routewright/SearchRandom") (D : ∀ {O nm d : String} {ty : FieldType}, Laid Z a0 "com/example/routewright/routewright/SearchRandom" O nm d → parseFieldDescriptor d = some ty → Fld Z h a O nm d (defaultValue ty)) : ObSR Z h a (.long 0) := ⟨A, D (Or.inl (wd hw (i := 10) rfl)) (ty := .long) (by decide)⟩
theorem d1_0 : decode prog_47_method_1_code 0 = .ok (.aload_n 0, 1) := by decide +kernel
theorem d1_1 : decode prog_47_method_1_code 1 = .ok (.invokespecial 1, 3) := by decide +kernel
theorem d1_4 : decode prog_47_method_1_code 4 = .ok (.aload_n 0, 1) := by decide +kernel
theorem d1_5 : decode prog_47_method_1_code 5 = .ok (.lload_n 1, 1) := by decide +kernel
theorem d1_6 : decode prog_47_method_1_code 6 = .ok (.putfield 7, 3) := by decide +kernel
theorem d1_9 : decode prog_47_method_1_code 9 = .ok (.return_, 1) := by decide +kernel
theorem pn_1 : plainName "com/example/routewright/routewright/SearchRandom" = true := by first | (simp [plainName, overriddenIn]; done) | decide +kernel
theorem pd_1 : parseMethodDescriptor "(J)V" = some ⟨[.long], none⟩ := by decide +kernel
abbrev room1 : Room := { frames := 1, cells := 0, slots := 0, locals := 12 }
def Q1 (Z : State) (a0 : Addr) (q1 : Int64) (v : Int64) (h0 : Heap) (vv : Option Value) (hh : Heap) : Prop := vv = none ∧ Keep h0 hh [a0] ∧ ObSR Z hh a0 (.long q1)
theorem ef_1 (m : MethodId) (a0 : Addr) (q1 : Int64) : entryFrame m #[(.ref a0), (.long q1)] 3 = mkF m 0 #[.val (.ref a0), .val (.long q1), .second] [] := by first | (simp [entryFrame, mkF, argsToLocals, Value.category]; done) | rfl
set_option maxRecDepth 65536 in
set_option maxHeartbeats 40000000 in
theorem rm1 {l : Launch} {Z : State} {aw : Array Value} (hw : ∀ d ∈ tables_1, d.before aw Z = true) {n0 : Nat} (a0 : Addr) (q1 : Int64) (v : Int64) (h0 : Heap) (O : ObSR Z h0 a0 (.long v)) (g_a0 : n0 ≤ a0) (hn0 : n0 ≤ h0.size) :
    Con l Z (⟨"com/example/routewright/routewright/SearchRandom", "<init>", "(J)V"⟩ : MethodName) prog_47_method_1_code 3 none room1 n0 #[(.ref a0), (.long q1)] h0 (Q1 Z a0 q1 v h0) := by
  refine Con.body (plainFor_of_name pn_1) hn0 (fun m => ef_1 m a0 q1) ?_
  intro p e s m below meth c T P
  have K := Keep.refl h0 [a0]
  refine G.aloadN P d1_0 rfl rfl (pc' := 1) rfl ?_
  refine G.initO P (wd hw (i := 6) rfl) (wd hw (i := 7) rfl) (wd hw (i := 8) rfl) rfl d1_1 (by decide) (W := 0) (Nat.le_of_eq rfl) (by decide) (pc' := 4) rfl (fun T P => ?_)
  refine G.aloadN P d1_4 rfl rfl (pc' := 5) rfl ?_
  refine G.lloadN P d1_5 rfl (pc' := 6) rfl ?_
  refine G.putF P (host := "") (Or.inl (wd hw (i := 9) rfl)) Via.refl O.2 O.1 (Or.inl (wd hw (i := 10) rfl)) (wd hw (i := 1) rfl) (ty := .long) (by decide) rfl rfl g_a0 d1_6 (pc' := 9) rfl ?_
  intro T h2 P W1
  replace O := O.put0 hw W1
  replace K := K.wr W1 (Or.inl (by simp))
  exact G.return_ P rfl d1_9 (by decide) (by decide) ⟨rfl, K, O⟩
theorem d4_0 : decode prog_47_method_2_code 0 = .ok (.aload_n 0, 1) := by decide +kernel
theorem d4_1 : decode prog_47_method_2_code 1 = .ok (.dup, 1) := by decide +kernel
theorem d4_2 : decode prog_47_method_2_code 2 = .ok (.getfield 7, 3) := by decide +kernel
theorem d4_5 : decode prog_47_method_2_code 5 = .ok (.ldc2_w 13, 3) := by decide +kernel
theorem d4_8 : decode prog_47_method_2_code 8 = .ok (.ladd, 1) := by decide +kernel
theorem d4_9 : decode prog_47_method_2_code 9 = .ok (.putfield 7, 3) := by decide +kernel
theorem d4_12 : decode prog_47_method_2_code 12 = .ok (.aload_n 0, 1) := by decide +kernel
theorem d4_13 : decode prog_47_method_2_code 13 = .ok (.getfield 7, 3) := by decide +kernel
theorem d4_16 : decode prog_47_method_2_code 16 = .ok (.aload_n 0, 1) := by decide +kernel
theorem d4_17 : decode prog_47_method_2_code 17 = .ok (.getfield 7, 3) := by decide +kernel
theorem d4_20 : decode prog_47_method_2_code 20 = .ok (.bipush 30, 2) := by decide +kernel
theorem d4_22 : decode prog_47_method_2_code 22 = .ok (.lushr, 1) := by decide +kernel
theorem d4_23 : decode prog_47_method_2_code 23 = .ok (.lxor, 1) := by decide +kernel
theorem d4_24 : decode prog_47_method_2_code 24 = .ok (.ldc2_w 15, 3) := by decide +kernel
theorem d4_27 : decode prog_47_method_2_code 27 = .ok (.lmul, 1) := by decide +kernel
theorem d4_28 : decode prog_47_method_2_code 28 = .ok (.lstore_n 1, 1) := by decide +kernel
theorem d4_29 : decode prog_47_method_2_code 29 = .ok (.lload_n 1, 1) := by decide +kernel
theorem d4_30 : decode prog_47_method_2_code 30 = .ok (.lload_n 1, 1) := by decide +kernel
theorem d4_31 : decode prog_47_method_2_code 31 = .ok (.bipush 27, 2) := by decide +kernel
theorem d4_33 : decode prog_47_method_2_code 33 = .ok (.lushr, 1) := by decide +kernel
theorem d4_34 : decode prog_47_method_2_code 34 = .ok (.lxor, 1) := by decide +kernel
theorem d4_35 : decode prog_47_method_2_code 35 = .ok (.ldc2_w 17, 3) := by decide +kernel
theorem d4_38 : decode prog_47_method_2_code 38 = .ok (.lmul, 1) := by decide +kernel
theorem d4_39 : decode prog_47_method_2_code 39 = .ok (.lstore_n 1, 1) := by decide +kernel
theorem d4_40 : decode prog_47_method_2_code 40 = .ok (.lload_n 1, 1) := by decide +kernel
theorem d4_41 : decode prog_47_method_2_code 41 = .ok (.lload_n 1, 1) := by decide +kernel
theorem d4_42 : decode prog_47_method_2_code 42 = .ok (.bipush 31, 2) := by decide +kernel
theorem d4_44 : decode prog_47_method_2_code 44 = .ok (.lushr, 1) := by decide +kernel
theorem d4_45 : decode prog_47_method_2_code 45 = .ok (.lxor, 1) := by decide +kernel
theorem d4_46 : decode prog_47_method_2_code 46 = .ok (.lreturn, 1) := by decide +kernel
theorem pn_4 : plainName "com/example/routewright/routewright/SearchRandom" = true := by first | (simp [plainName, overriddenIn]; done) | decide +kernel
theorem pd_4 : parseMethodDescriptor "()J" = some ⟨[], some .long⟩ := by decide +kernel
def f4 (v : Int64) : Int64 := ((((((v + (-7046029254386353131 : Int64)) ^^^ (((v + (-7046029254386353131 : Int64)).toUInt64 >>> ((30 : Int32) &&& 0x3f).toInt64.toUInt64).toInt64)) * (-4658895280553007687 : Int64)) ^^^ (((((v + (-7046029254386353131 : Int64)) ^^^ (((v + (-7046029254386353131 : Int64)).toUInt64 >>> ((30 : Int32) &&& 0x3f).toInt64.toUInt64).toInt64)) * (-4658895280553007687 : Int64)).toUInt64 >>> ((27 : Int32) &&& 0x3f).toInt64.toUInt64).toInt64)) * (-7723592293110705685 : Int64)) ^^^ (((((((v + (-7046029254386353131 : Int64)) ^^^ (((v + (-7046029254386353131 : Int64)).toUInt64 >>> ((30 : Int32) &&& 0x3f).toInt64.toUInt64).toInt64)) * (-4658895280553007687 : Int64)) ^^^ (((((v + (-7046029254386353131 : Int64)) ^^^ (((v + (-7046029254386353131 : Int64)).toUInt64 >>> ((30 : Int32) &&& 0x3f).toInt64.toUInt64).toInt64)) * (-4658895280553007687 : Int64)).toUInt64 >>> ((27 : Int32) &&& 0x3f).toInt64.toUInt64).toInt64)) * (-7723592293110705685 : Int64)).toUInt64 >>> ((31 : Int32) &&& 0x3f).toInt64.toUInt64).toInt64))
abbrev room4 : Room := { frames := 0, cells := 0, slots := 0, locals := 0 }
def Q4 (Z : State) (a0 : Addr) (v : Int64) (h0 : Heap) (vv : Option Value) (hh : Heap) : Prop := vv = some (.long (f4 v)) ∧ Keep h0 hh [a0] ∧ ObSR Z hh a0 (.long (v + (-7046029254386353131 : Int64)))
theorem ef_4 (m : MethodId) (a0 : Addr) : entryFrame m #[(.ref a0)] 3 = mkF m 0 #[.val (.ref a0), .unset, .unset] [] := by first | (simp [entryFrame, mkF, argsToLocals, Value.category]; done) | rfl
set_option maxRecDepth 65536 in
set_option maxHeartbeats 40000000 in
theorem rm4 {l : Launch} {Z : State} {aw : Array Value} (hw : ∀ d ∈ tables_1, d.before aw Z = true) {n0 : Nat} (a0 : Addr) (v : Int64) (h0 : Heap) (O : ObSR Z h0 a0 (.long v)) (g_a0 : n0 ≤ a0) (hn0 : n0 ≤ h0.size) :
    Con l Z (⟨"com/example/routewright/routewright/SearchRandom", "nextLong", "()J"⟩ : MethodName) prog_47_method_2_code 3 (some .long) room4 n0 #[(.ref a0)] h0 (Q4 Z a0 v h0) := by
  refine Con.body (plainFor_of_name pn_4) hn0 (fun m => ef_4 m a0) ?_
  intro p e s m below meth c T P
  have K := Keep.refl h0 [a0]
  refine G.aloadN P d4_0 rfl rfl (pc' := 1) rfl ?_
  refine G.dup P d4_1 rfl (pc' := 2) rfl ?_
  refine G.getF P (host := "") (Or.inl (wd hw (i := 9) rfl)) Via.refl O.2 d4_2 (pc' := 5) rfl ?_
  intro T P
  refine G.ldc2 P (wd hw (i := 21) rfl) d4_5 (pc' := 8) rfl ?_
  refine G.ladd P d4_8 (pc' := 9) rfl ?_
  obtain ⟨x3, hx3⟩ : ∃ z : Int64, (v + (-7046029254386353131 : Int64)) = z := ⟨_, rfl⟩
  refine G.topL hx3 ?_
  refine G.putF P (host := "") (Or.inl (wd hw (i := 9) rfl)) Via.refl O.2 O.1 (Or.inl (wd hw (i := 10) rfl)) (wd hw (i := 1) rfl) (ty := .long) (by decide) rfl rfl g_a0 d4_9 (pc' := 12) rfl ?_
  intro T h5 P W4
  replace O := O.put0 hw W4
  replace K := K.wr W4 (Or.inl (by simp))
  refine G.aloadN P d4_12 rfl rfl (pc' := 13) rfl ?_
  refine G.getF P (host := "") (Or.inl (wd hw (i := 9) rfl)) Via.refl O.2 d4_13 (pc' := 16) rfl ?_
  intro T P
  refine G.aloadN P d4_16 rfl rfl (pc' := 17) rfl ?_
  refine G.getF P (host := "") (Or.inl (wd hw (i := 9) rfl)) Via.refl O.2 d4_17 (pc' := 20) rfl ?_
  intro T P
  refine G.bipush P d4_20 (v := (30 : Int32)) rfl (pc' := 22) rfl ?_
  refine G.lushr P d4_22 (pc' := 23) rfl ?_
  refine G.lxor P d4_23 (pc' := 24) rfl ?_
  refine G.ldc2 P (wd hw (i := 22) rfl) d4_24 (pc' := 27) rfl ?_
  refine G.lmul P d4_27 (pc' := 28) rfl ?_
  obtain ⟨x6, hx6⟩ : ∃ z : Int64, ((x3 ^^^ ((x3.toUInt64 >>> ((30 : Int32) &&& 0x3f).toInt64.toUInt64).toInt64)) * (-4658895280553007687 : Int64)) = z := ⟨_, rfl⟩
  refine G.lstoreN P d4_28 hx6 (L' := #[.val (.ref a0), .val (.long x6), .second]) rfl (pc' := 29) rfl ?_
  refine G.lloadN P d4_29 rfl (pc' := 30) rfl ?_
  refine G.lloadN P d4_30 rfl (pc' := 31) rfl ?_
  refine G.bipush P d4_31 (v := (27 : Int32)) rfl (pc' := 33) rfl ?_
  refine G.lushr P d4_33 (pc' := 34) rfl ?_
  refine G.lxor P d4_34 (pc' := 35) rfl ?_
  refine G.ldc2 P (wd hw (i := 23) rfl) d4_35 (pc' := 38) rfl ?_
  refine G.lmul P d4_38 (pc' := 39) rfl ?_
  obtain ⟨x7, hx7⟩ : ∃ z : Int64, ((x6 ^^^ ((x6.toUInt64 >>> ((27 : Int32) &&& 0x3f).toInt64.toUInt64).toInt64)) * (-7723592293110705685 : Int64)) = z := ⟨_, rfl⟩
  refine G.lstoreN P d4_39 hx7 (L' := #[.val (.ref a0), .val (.long x7), .second]) rfl (pc' := 40) rfl ?_
  refine G.lloadN P d4_40 rfl (pc' := 41) rfl ?_
  refine G.lloadN P d4_41 rfl (pc' := 42) rfl ?_
  refine G.bipush P d4_42 (v := (31 : Int32)) rfl (pc' := 44) rfl ?_
  refine G.lushr P d4_44 (pc' := 45) rfl ?_
  refine G.lxor P d4_45 (pc' := 46) rfl ?_
  subst hx3 hx6 hx7
  exact G.lreturn P rfl d4_46 (by decide) (by decide) ⟨by simp only [f4], K, O⟩
theorem d3_0 : decode prog_47_method_5_code 0 = .ok (.aload_n 0, 1) := by decide +kernel
theorem d3_1 : decode prog_47_method_5_code 1 = .ok (.invokevirtual 19, 3) := by decide +kernel
theorem d3_4 : decode prog_47_method_5_code 4 = .ok (.bipush 33, 2) := by decide +kernel
theorem d3_6 : decode prog_47_method_5_code 6 = .ok (.lushr, 1) := by decide +kernel
theorem d3_7 : decode prog_47_method_5_code 7 = .ok (.iload_n 1, 1) := by decide +kernel
theorem d3_8 : decode prog_47_method_5_code 8 = .ok (.i2l, 1) := by decide +kernel
theorem d3_9 : decode prog_47_method_5_code 9 = .ok (.lmul, 1) := by decide +kernel
theorem d3_10 : decode prog_47_method_5_code 10 = .ok (.bipush 31, 2) := by decide +kernel
theorem d3_12 : decode prog_47_method_5_code 12 = .ok (.lushr, 1) := by decide +kernel
theorem d3_13 : decode prog_47_method_5_code 13 = .ok (.l2i, 1) := by decide +kernel
theorem d3_14 : decode prog_47_method_5_code 14 = .ok (.ireturn, 1) := by decide +kernel
theorem pn_3 : plainName "com/example/routewright/routewright/SearchRandom" = true := by first | (simp [plainName, overriddenIn]; done) | decide +kernel
theorem pd_3 : parseMethodDescriptor "(I)I" = some ⟨[.int], some .int⟩ := by decide +kernel
def f3 (p1 : Int32) (v : Int64) : Int32 := (((((((f4 v).toUInt64 >>> ((33 : Int32) &&& 0x3f).toInt64.toUInt64).toInt64) * (p1.toInt64)).toUInt64 >>> ((31 : Int32) &&& 0x3f).toInt64.toUInt64).toInt64).toInt32)
abbrev room3 : Room := { frames := 1, cells := 0, slots := 0, locals := 14 }
def Q3 (Z : State) (a0 : Addr) (p1 : Int32) (v : Int64) (h0 : Heap) (vv : Option Value) (hh : Heap) : Prop := vv = some (.int (f3 p1 v)) ∧ Keep h0 hh [a0] ∧ ObSR Z hh a0 (.long (v + (-7046029254386353131 : Int64)))
theorem ef_3 (m : MethodId) (a0 : Addr) (p1 : Int32) : entryFrame m #[(.ref a0), (.int p1)] 2 = mkF m 0 #[.val (.ref a0), .val (.int p1)] [] := by first | (simp [entryFrame, mkF, argsToLocals, Value.category]; done) | rfl
set_option maxRecDepth 65536 in
set_option maxHeartbeats 40000000 in
theorem rm3 {l : Launch} {Z : State} {aw : Array Value} (hw : ∀ d ∈ tables_1, d.before aw Z = true) {n0 : Nat} (a0 : Addr) (p1 : Int32) (v : Int64) (h0 : Heap) (O : ObSR Z h0 a0 (.long v)) (g_a0 : n0 ≤ a0) (hn0 : n0 ≤ h0.size) :
    Con l Z (⟨"com/example/routewright/routewright/SearchRandom", "nextInt", "(I)I"⟩ : MethodName) prog_47_method_5_code 2 (some .int) room3 n0 #[(.ref a0), (.int p1)] h0 (Q3 Z a0 p1 v h0) := by
  refine Con.body (plainFor_of_name pn_3) hn0 (fun m => ef_3 m a0 p1) ?_
  intro p e s m below meth c T P
  have K := Keep.refl h0 [a0]
  refine G.aloadN P d3_0 rfl rfl (pc' := 1) rfl ?_
  refine G.callV P (wd hw (i := 16) rfl) (wd hw (i := 17) rfl) (wd hw (i := 19) rfl) (wd hw (i := 18) rfl) (wd hw (i := 2) rfl) (wd hw (i := 20) rfl) (by decide) O.1 (argsL := []) (a := a0) (rm4 hw a0 v h0 O g_a0 P.sz) (by decide) (by decide) (cells' := 0) rfl (slots' := 0) rfl (by decide) (by decide) (lenOf pd_4 rfl) rfl (rest := []) rfl (W := 0) (Nat.le_of_eq rfl) d3_1 (pc' := 4) rfl ?_
  clear O
  rintro T h8 _ P ⟨rfl, K9, O⟩
  replace K := K.trans K9 (by simp)
  show Goes p e below s n0 room3.cells room3.slots (Q3 Z a0 p1 v h0) (T.setTop (mkF m 4 #[.val (.ref a0), .val (.int p1)] [(.long (f4 v))]))
  generalize hr10 : (f4 v) = r10
  refine G.bipush P d3_4 (v := (33 : Int32)) rfl (pc' := 6) rfl ?_
  refine G.lushr P d3_6 (pc' := 7) rfl ?_
  refine G.iloadN P d3_7 rfl (pc' := 8) rfl ?_
  refine G.i2l P d3_8 (pc' := 9) rfl ?_
  refine G.lmul P d3_9 (pc' := 10) rfl ?_
  refine G.bipush P d3_10 (v := (31 : Int32)) rfl (pc' := 12) rfl ?_
  refine G.lushr P d3_12 (pc' := 13) rfl ?_
  refine G.l2i P d3_13 (pc' := 14) rfl ?_
  subst hr10
  exact G.ireturn P rfl d3_14 (by decide) (by decide) ⟨by simp only [f3], K, O⟩
theorem own_core (w : Int64) (b : Int32) (hb : 1 ≤ b.toInt) (r p : Int64) (res : Int32) (hr : ((w.toUInt64 >>> ((33 : Int32) &&& 0x3f).toInt64.toUInt64).toInt64) = r) (hp : r * b.toInt64 = p) (hs : ((p.toUInt64 >>> ((31 : Int32) &&& 0x3f).toInt64.toUInt64).toInt64).toInt32 = res) :
    ¬ res < 0 ∧ res < b ∧ ¬ p < (res.toInt64 <<< ((31 : Int32) &&& 0x3f).toInt64) ∧ p < ((res.toInt64 + 1) <<< ((31 : Int32) &&& 0x3f).toInt64) := by
  have h1 := c_lushr w 33 33 (by decide) (by decide)
  rw [hr] at h1
  have hw := rng64 w
  have hb2 := rng32 b
  have r1 : 0 ≤ r.toInt := by omega
  have r2 : r.toInt < 2147483648 := by omega
  have h2 := c_lmul r b.toInt64
  rw [hp, c_i2l] at h2
  have q1 : 0 ≤ r.toInt * b.toInt := Int.mul_nonneg r1 (by omega)
  have q2 : r.toInt * b.toInt ≤ 2147483647 * b.toInt := Int.mul_le_mul_of_nonneg_right (by omega) (by omega)
  have hp2 := rng64 p
  have h3 : p.toInt = r.toInt * b.toInt := by generalize r.toInt * b.toInt = q at *; omega
  generalize r.toInt * b.toInt = q at *
  have h4 := c_lushr p 31 31 (by decide) (by decide)
  have h5 := c_l2i ((p.toUInt64 >>> ((31 : Int32) &&& 0x3f).toInt64.toUInt64).toInt64)
  rw [hs] at h5
  have h6 := rng32 res
  have h7 : res.toInt = q / 2147483648 := by omega
  have h8 := c_lshl res.toInt64 31 31 (by decide)
  have h9 := rng64 (res.toInt64 <<< ((31 : Int32) &&& 0x3f).toInt64)
  rw [c_i2l] at h8
  have h10 := c_lshl (res.toInt64 + 1) 31 31 (by decide)
  have h11 := rng64 ((res.toInt64 + 1) <<< ((31 : Int32) &&& 0x3f).toInt64)
  have h12 := c_ladd res.toInt64 1
  have k1 : (1 : Int64).toInt = 1 := by decide
  rw [c_i2l, k1] at h12
  have h13 := rng64 (res.toInt64 + 1)
  rw [Int32.lt_iff_toInt_lt, Int32.lt_iff_toInt_lt, Int64.lt_iff_toInt_lt, Int64.lt_iff_toInt_lt]
  have k0 : (0 : Int32).toInt = 0 := by decide
  omega
theorem own_bd (x f : Int32) : 1 ≤ (if (f &&& (1 : Int32)) = 0 then (if (x &&& (2147483647 : Int32)) = 0 then (1 : Int32) else (x &&& (2147483647 : Int32))) else ((x &&& (15 : Int32)) + (1 : Int32))).toInt := by
  have k1 : (1 : Int32).toInt = 1 := by decide
  split
  · split
    · rw [k1]; omega
    · rename_i h
      have h1 := c_mask x 2147483647 31 (by decide) (by decide)
      have h2 : (x &&& 2147483647).toInt ≠ 0 := fun q => h (Int32.toInt_inj.mp q)
      omega
  · have h1 := c_mask x 15 4 (by decide) (by decide)
    have h2 := c_iadd (x &&& 15) 1
    have h3 := rng32 ((x &&& 15) + 1)
    omega
theorem pn_0 : plainName "com/example/routewright/routewright/SearchRandomNextIntPinLaw" = true := by first | (simp [plainName, overriddenIn]; done) | decide +kernel
theorem pd_0 : parseMethodDescriptor "(JII)Z" = some ⟨[.long, .int, .int], some .boolean⟩ := by decide +kernel
def Q0 (Z : State) (q0 : Int64) (p1 : Int32) (p2 : Int32) (h0 : Heap) (vv : Option Value) (hh : Heap) : Prop := vv = some (.int 1) ∧ True
theorem ef_0 (m : MethodId) (q0 : Int64) (p1 : Int32) (p2 : Int32) : entryFrame m #[(.long q0), (.int p1), (.int p2)] maxLocals = mkF m 0 #[.val (.long q0), .second, .val (.int p1), .val (.int p2), .unset, .unset, .unset, .unset, .unset, .unset, .unset, .unset, .unset, .unset, .unset, .unset, .unset, .unset, .unset] [] := by first | (simp [entryFrame, mkF, argsToLocals, Value.category, maxLocals]; done) | rfl
set_option maxRecDepth 65536 in
set_option maxHeartbeats 40000000 in
theorem rm0 {l : Launch} {Z : State} {aw : Array Value} (hw : ∀ d ∈ tables_1, d.before aw Z = true) {n0 : Nat} (q0 : Int64) (p1 : Int32) (p2 : Int32) (h0 : Heap) (hn0 : n0 ≤ h0.size) :
    Con l Z x code maxLocals ret room_1 n0 #[(.long q0), (.int p1), (.int p2)] h0 (Q0 Z q0 p1 p2 h0) := by
  refine Con.body (plainFor_of_name pn_0) hn0 (fun m => ef_0 m q0 p1 p2) ?_
  intro p e s m below meth c T P
  refine G.iloadN P at_0 rfl (pc' := 1) rfl ?_
  refine G.iconst P at_1 (v := (1 : Int32)) rfl (pc' := 2) rfl ?_
  refine G.iand P at_2 (pc' := 3) rfl ?_
  have J31_3 : ∀ (z11 : Int32), z11 = (if (p2 &&& (1 : Int32)) = 0 then (if ((p1 &&& (2147483647 : Int32))) = 0 then (1 : Int32) else ((p1 &&& (2147483647 : Int32)))) else (((p1 &&& (15 : Int32)) + (1 : Int32)))) → Goes p e below s n0 room_1.cells room_1.slots (Q0 Z q0 p1 p2 h0) (T.setTop (mkF m 31 #[.val (.long q0), .second, .val (.int p1), .val (.int p2), .val (.int z11), .unset, .unset, .unset, .unset, .unset, .unset, .unset, .unset, .unset, .unset, .unset, .unset, .unset, .unset] [])) := by
    intro z11 hz11
    refine G.new P (wd hw (i := 0) rfl) (wd hw (i := 1) rfl) (wd hw (i := 2) rfl) at_31 (cells' := 1) rfl (slots' := 1) rfl (by decide) (by decide) (pc' := 34) rfl ?_
    intro T h12 b12 hb12 g_b12 P E12 X12 D12
    have O12 := ObSR.new hw X12 @D12
    refine G.dup P at_34 rfl (pc' := 35) rfl ?_
    refine G.lloadN P at_35 rfl (pc' := 36) rfl ?_
    refine G.callI P rfl (wd hw (i := 3) rfl) (wd hw (i := 4) rfl) (wd hw (i := 2) rfl) (wd hw (i := 5) rfl) (by decide) (argsL := [(.long q0)]) (a := b12) (rm1 hw b12 q0 (0 : Int64) h12 O12 g_b12 P.sz) (by decide) (by decide) (cells' := 1) rfl (slots' := 1) rfl (by decide) (by decide) (lenOf pd_1 rfl) rfl (rest := [(.ref b12)]) rfl (W := 1) (Nat.le_of_eq rfl) at_36 (pc' := 39) rfl ?_
    clear O12
    rintro T h13 _ P ⟨rfl, K14, O12⟩
    show Goes p e below s n0 room_1.cells room_1.slots (Q0 Z q0 p1 p2 h0) (T.setTop (mkF m 39 #[.val (.long q0), .second, .val (.int p1), .val (.int p2), .val (.int z11), .unset, .unset, .unset, .unset, .unset, .unset, .unset, .unset, .unset, .unset, .unset, .unset, .unset, .unset] [(.ref b12)]))
    refine G.astore P at_39 rfl (L' := #[.val (.long q0), .second, .val (.int p1), .val (.int p2), .val (.int z11), .val (.ref b12), .unset, .unset, .unset, .unset, .unset, .unset, .unset, .unset, .unset, .unset, .unset, .unset, .unset]) rfl (pc' := 41) rfl ?_
    refine G.new P (wd hw (i := 0) rfl) (wd hw (i := 1) rfl) (wd hw (i := 2) rfl) at_41 (cells' := 2) rfl (slots' := 2) rfl (by decide) (by decide) (pc' := 44) rfl ?_
    intro T h15 b15 hb15 g_b15 P E15 X15 D15
    have ne_b12_b15 : b12 ≠ b15 := by rw [hb15]; exact Nat.ne_of_lt O12.lt
    replace O12 := O12.ext E15
    have O15 := ObSR.new hw X15 @D15
    refine G.dup P at_44 rfl (pc' := 45) rfl ?_
    refine G.lloadN P at_45 rfl (pc' := 46) rfl ?_
    refine G.callI P rfl (wd hw (i := 3) rfl) (wd hw (i := 4) rfl) (wd hw (i := 2) rfl) (wd hw (i := 5) rfl) (by decide) (argsL := [(.long q0)]) (a := b15) (rm1 hw b15 q0 (0 : Int64) h15 O15 g_b15 P.sz) (by decide) (by decide) (cells' := 2) rfl (slots' := 2) rfl (by decide) (by decide) (lenOf pd_1 rfl) rfl (rest := [(.ref b15)]) rfl (W := 1) (Nat.le_of_eq rfl) at_46 (pc' := 49) rfl ?_
    clear O15
    rintro T h16 _ P ⟨rfl, K17, O15⟩
    replace O12 := O12.keep K17 (ninS ne_b12_b15 nin0)
    show Goes p e below s n0 room_1.cells room_1.slots (Q0 Z q0 p1 p2 h0) (T.setTop (mkF m 49 #[.val (.long q0), .second, .val (.int p1), .val (.int p2), .val (.int z11), .val (.ref b12), .unset, .unset, .unset, .unset, .unset, .unset, .unset, .unset, .unset, .unset, .unset, .unset, .unset] [(.ref b15)]))
    refine G.astore P at_49 rfl (L' := #[.val (.long q0), .second, .val (.int p1), .val (.int p2), .val (.int z11), .val (.ref b12), .val (.ref b15), .unset, .unset, .unset, .unset, .unset, .unset, .unset, .unset, .unset, .unset, .unset, .unset]) rfl (pc' := 51) rfl ?_
    refine G.aload P at_51 rfl rfl (pc' := 53) rfl ?_
    refine G.iload P at_53 rfl (pc' := 55) rfl ?_
    refine G.callV P (wd hw (i := 11) rfl) (wd hw (i := 12) rfl) (wd hw (i := 14) rfl) (wd hw (i := 13) rfl) (wd hw (i := 2) rfl) (wd hw (i := 15) rfl) (by decide) O12.1 (argsL := [(.int z11)]) (a := b12) (rm3 hw b12 z11 q0 h16 O12 g_b12 P.sz) (by decide) (by decide) (cells' := 2) rfl (slots' := 2) rfl (by decide) (by decide) (lenOf pd_3 rfl) rfl (rest := []) rfl (W := 0) (Nat.le_of_eq rfl) at_55 (pc' := 58) rfl ?_
    clear O12
    rintro T h18 _ P ⟨rfl, K19, O12⟩
    replace O15 := O15.keep K19 (ninS (Ne.symm ne_b12_b15) nin0)
    show Goes p e below s n0 room_1.cells room_1.slots (Q0 Z q0 p1 p2 h0) (T.setTop (mkF m 58 #[.val (.long q0), .second, .val (.int p1), .val (.int p2), .val (.int z11), .val (.ref b12), .val (.ref b15), .unset, .unset, .unset, .unset, .unset, .unset, .unset, .unset, .unset, .unset, .unset, .unset] [(.int (f3 z11 q0))]))
    generalize hr20 : (f3 z11 q0) = r20
    refine G.istore P at_58 rfl (L' := #[.val (.long q0), .second, .val (.int p1), .val (.int p2), .val (.int z11), .val (.ref b12), .val (.ref b15), .val (.int r20), .unset, .unset, .unset, .unset, .unset, .unset, .unset, .unset, .unset, .unset, .unset]) rfl (pc' := 60) rfl ?_
    refine G.aload P at_60 rfl rfl (pc' := 62) rfl ?_
    refine G.callV P (wd hw (i := 24) rfl) (wd hw (i := 17) rfl) (wd hw (i := 19) rfl) (wd hw (i := 18) rfl) (wd hw (i := 2) rfl) (wd hw (i := 20) rfl) (by decide) O15.1 (argsL := []) (a := b15) (rm4 hw b15 q0 h18 O15 g_b15 P.sz) (by decide) (by decide) (cells' := 2) rfl (slots' := 2) rfl (by decide) (by decide) (lenOf pd_4 rfl) rfl (rest := []) rfl (W := 0) (Nat.le_of_eq rfl) at_62 (pc' := 65) rfl ?_
    clear O15
    rintro T h21 _ P ⟨rfl, K22, O15⟩
    replace O12 := O12.keep K22 (ninS ne_b12_b15 nin0)
    show Goes p e below s n0 room_1.cells room_1.slots (Q0 Z q0 p1 p2 h0) (T.setTop (mkF m 65 #[.val (.long q0), .second, .val (.int p1), .val (.int p2), .val (.int z11), .val (.ref b12), .val (.ref b15), .val (.int r20), .unset, .unset, .unset, .unset, .unset, .unset, .unset, .unset, .unset, .unset, .unset] [(.long (f4 q0))]))
    generalize hr23 : (f4 q0) = r23
    refine G.bipush P at_65 (v := (33 : Int32)) rfl (pc' := 67) rfl ?_
    refine G.lushr P at_67 (pc' := 68) rfl ?_
    obtain ⟨x24, hx24⟩ : ∃ z : Int64, ((r23.toUInt64 >>> ((33 : Int32) &&& 0x3f).toInt64.toUInt64).toInt64) = z := ⟨_, rfl⟩
    refine G.lstore P at_68 hx24 (L' := #[.val (.long q0), .second, .val (.int p1), .val (.int p2), .val (.int z11), .val (.ref b12), .val (.ref b15), .val (.int r20), .val (.long x24), .second, .unset, .unset, .unset, .unset, .unset, .unset, .unset, .unset, .unset]) rfl (pc' := 70) rfl ?_
    refine G.lload P at_70 rfl (pc' := 72) rfl ?_
    refine G.iload P at_72 rfl (pc' := 74) rfl ?_
    refine G.i2l P at_74 (pc' := 75) rfl ?_
    refine G.lmul P at_75 (pc' := 76) rfl ?_
    obtain ⟨x25, hx25⟩ : ∃ z : Int64, (x24 * (z11.toInt64)) = z := ⟨_, rfl⟩
    refine G.lstore P at_76 hx25 (L' := #[.val (.long q0), .second, .val (.int p1), .val (.int p2), .val (.int z11), .val (.ref b12), .val (.ref b15), .val (.int r20), .val (.long x24), .second, .val (.long x25), .second, .unset, .unset, .unset, .unset, .unset, .unset, .unset]) rfl (pc' := 78) rfl ?_
    refine G.iload P at_78 rfl (pc' := 80) rfl ?_
    refine G.i2l P at_80 (pc' := 81) rfl ?_
    refine G.bipush P at_81 (v := (31 : Int32)) rfl (pc' := 83) rfl ?_
    refine G.lshl P at_83 (pc' := 84) rfl ?_
    obtain ⟨x26, hx26⟩ : ∃ z : Int64, ((r20.toInt64) <<< ((31 : Int32) &&& 0x3f).toInt64) = z := ⟨_, rfl⟩
    refine G.lstore P at_84 hx26 (L' := #[.val (.long q0), .second, .val (.int p1), .val (.int p2), .val (.int z11), .val (.ref b12), .val (.ref b15), .val (.int r20), .val (.long x24), .second, .val (.long x25), .second, .val (.long x26), .second, .unset, .unset, .unset, .unset, .unset]) rfl (pc' := 86) rfl ?_
    refine G.iload P at_86 rfl (pc' := 88) rfl ?_
    refine G.i2l P at_88 (pc' := 89) rfl ?_
    refine G.lconst P at_89 (v := (1 : Int64)) rfl (pc' := 90) rfl ?_
    refine G.ladd P at_90 (pc' := 91) rfl ?_
    refine G.bipush P at_91 (v := (31 : Int32)) rfl (pc' := 93) rfl ?_
    refine G.lshl P at_93 (pc' := 94) rfl ?_
    obtain ⟨x27, hx27⟩ : ∃ z : Int64, (((r20.toInt64) + (1 : Int64)) <<< ((31 : Int32) &&& 0x3f).toInt64) = z := ⟨_, rfl⟩
    refine G.lstore P at_94 hx27 (L' := #[.val (.long q0), .second, .val (.int p1), .val (.int p2), .val (.int z11), .val (.ref b12), .val (.ref b15), .val (.int r20), .val (.long x24), .second, .val (.long x25), .second, .val (.long x26), .second, .val (.long x27), .second, .unset, .unset, .unset]) rfl (pc' := 96) rfl ?_
    refine G.iload P at_96 rfl (pc' := 98) rfl ?_
    have J113_98 : ∀ (z28 : Int32), z28 = (if r20 < 0 then (0 : Int32) else (if r20 < z11 then (1 : Int32) else (0 : Int32))) → Goes p e below s n0 room_1.cells room_1.slots (Q0 Z q0 p1 p2 h0) (T.setTop (mkF m 113 #[.val (.long q0), .second, .val (.int p1), .val (.int p2), .val (.int z11), .val (.ref b12), .val (.ref b15), .val (.int r20), .val (.long x24), .second, .val (.long x25), .second, .val (.long x26), .second, .val (.long x27), .second, .unset, .unset, .unset] [(.int z28)])) := by
      intro z28 hz28
      refine G.istore P at_113 rfl (L' := #[.val (.long q0), .second, .val (.int p1), .val (.int p2), .val (.int z11), .val (.ref b12), .val (.ref b15), .val (.int r20), .val (.long x24), .second, .val (.long x25), .second, .val (.long x26), .second, .val (.long x27), .second, .val (.int z28), .unset, .unset]) rfl (pc' := 115) rfl ?_
      refine G.lload P at_115 rfl (pc' := 117) rfl ?_
      refine G.lload P at_117 rfl (pc' := 119) rfl ?_
      refine G.lcmp P at_119 (pc' := 120) rfl ?_
      have J136_120 : ∀ (z29 : Int32), z29 = (if x25 < x26 then (0 : Int32) else (if x25 < x27 then (1 : Int32) else (0 : Int32))) → Goes p e below s n0 room_1.cells room_1.slots (Q0 Z q0 p1 p2 h0) (T.setTop (mkF m 136 #[.val (.long q0), .second, .val (.int p1), .val (.int p2), .val (.int z11), .val (.ref b12), .val (.ref b15), .val (.int r20), .val (.long x24), .second, .val (.long x25), .second, .val (.long x26), .second, .val (.long x27), .second, .val (.int z28), .unset, .unset] [(.int z29)])) := by
        intro z29 hz29
        refine G.istore P at_136 rfl (L' := #[.val (.long q0), .second, .val (.int p1), .val (.int p2), .val (.int z11), .val (.ref b12), .val (.ref b15), .val (.int r20), .val (.long x24), .second, .val (.long x25), .second, .val (.long x26), .second, .val (.long x27), .second, .val (.int z28), .val (.int z29), .unset]) rfl (pc' := 138) rfl ?_
        refine G.aload P at_138 rfl rfl (pc' := 140) rfl ?_
        refine G.callV P (wd hw (i := 24) rfl) (wd hw (i := 17) rfl) (wd hw (i := 19) rfl) (wd hw (i := 18) rfl) (wd hw (i := 2) rfl) (wd hw (i := 20) rfl) (by decide) O12.1 (argsL := []) (a := b12) (rm4 hw b12 (q0 + (-7046029254386353131 : Int64)) h21 O12 g_b12 P.sz) (by decide) (by decide) (cells' := 2) rfl (slots' := 2) rfl (by decide) (by decide) (lenOf pd_4 rfl) rfl (rest := []) rfl (W := 0) (Nat.le_of_eq rfl) at_140 (pc' := 143) rfl ?_
        clear O12
        rintro T h30 _ P ⟨rfl, K31, O12⟩
        replace O15 := O15.keep K31 (ninS (Ne.symm ne_b12_b15) nin0)
        show Goes p e below s n0 room_1.cells room_1.slots (Q0 Z q0 p1 p2 h0) (T.setTop (mkF m 143 #[.val (.long q0), .second, .val (.int p1), .val (.int p2), .val (.int z11), .val (.ref b12), .val (.ref b15), .val (.int r20), .val (.long x24), .second, .val (.long x25), .second, .val (.long x26), .second, .val (.long x27), .second, .val (.int z28), .val (.int z29), .unset] [(.long (f4 (q0 + (-7046029254386353131 : Int64))))]))
        generalize hr32 : (f4 (q0 + (-7046029254386353131 : Int64))) = r32
        refine G.aload P at_143 rfl rfl (pc' := 145) rfl ?_
        refine G.callV P (wd hw (i := 24) rfl) (wd hw (i := 17) rfl) (wd hw (i := 19) rfl) (wd hw (i := 18) rfl) (wd hw (i := 2) rfl) (wd hw (i := 20) rfl) (by decide) O15.1 (argsL := []) (a := b15) (rm4 hw b15 (q0 + (-7046029254386353131 : Int64)) h30 O15 g_b15 P.sz) (by decide) (by decide) (cells' := 2) rfl (slots' := 2) rfl (by decide) (by decide) (lenOf pd_4 rfl) rfl (rest := [(.long r32)]) rfl (W := 2) (Nat.le_of_eq rfl) at_145 (pc' := 148) rfl ?_
        clear O15
        rintro T h33 _ P ⟨rfl, K34, O15⟩
        replace O12 := O12.keep K34 (ninS ne_b12_b15 nin0)
        show Goes p e below s n0 room_1.cells room_1.slots (Q0 Z q0 p1 p2 h0) (T.setTop (mkF m 148 #[.val (.long q0), .second, .val (.int p1), .val (.int p2), .val (.int z11), .val (.ref b12), .val (.ref b15), .val (.int r20), .val (.long x24), .second, .val (.long x25), .second, .val (.long x26), .second, .val (.long x27), .second, .val (.int z28), .val (.int z29), .unset] [(.long (f4 (q0 + (-7046029254386353131 : Int64)))), (.long r32)]))
        generalize hr35 : (f4 (q0 + (-7046029254386353131 : Int64))) = r35
        refine G.lcmp P at_148 (pc' := 149) rfl ?_
        have J157_149 : ∀ (z36 : Int32), z36 = (if r32 = r35 then (1 : Int32) else (0 : Int32)) → Goes p e below s n0 room_1.cells room_1.slots (Q0 Z q0 p1 p2 h0) (T.setTop (mkF m 157 #[.val (.long q0), .second, .val (.int p1), .val (.int p2), .val (.int z11), .val (.ref b12), .val (.ref b15), .val (.int r20), .val (.long x24), .second, .val (.long x25), .second, .val (.long x26), .second, .val (.long x27), .second, .val (.int z28), .val (.int z29), .unset] [(.int z36)])) := by
          intro z36 hz36
          refine G.istore P at_157 rfl (L' := #[.val (.long q0), .second, .val (.int p1), .val (.int p2), .val (.int z11), .val (.ref b12), .val (.ref b15), .val (.int r20), .val (.long x24), .second, .val (.long x25), .second, .val (.long x26), .second, .val (.long x27), .second, .val (.int z28), .val (.int z29), .val (.int z36)]) rfl (pc' := 159) rfl ?_
          refine G.iload P at_159 rfl (pc' := 161) rfl ?_
          have J179_161 : ∀ (z37 : Int32), z37 = (if z28 = 0 then (0 : Int32) else (if z29 = 0 then (0 : Int32) else (if z36 = 0 then (0 : Int32) else (1 : Int32)))) → Goes p e below s n0 room_1.cells room_1.slots (Q0 Z q0 p1 p2 h0) (T.setTop (mkF m 179 #[.val (.long q0), .second, .val (.int p1), .val (.int p2), .val (.int z11), .val (.ref b12), .val (.ref b15), .val (.int r20), .val (.long x24), .second, .val (.long x25), .second, .val (.long x26), .second, .val (.long x27), .second, .val (.int z28), .val (.int z29), .val (.int z36)] [(.int z37)])) := by
            intro z37 hz37
            have hb : 1 ≤ z11.toInt := by rw [hz11]; exact own_bd p1 p2
            obtain ⟨c1, c2, c3, c4⟩ := own_core r23 z11 hb x24 x25 r20 hx24 hx25 (by rw [← hr20]; unfold f3; rw [hr23, hx24, hx25])
            rw [hx26] at c3
            rw [hx27] at c4
            have n1 : ¬ (1 : Int32) = 0 := by decide
            have y1 : ¬ z28 = 0 := by rw [hz28, if_neg c1, if_pos c2]; exact n1
            have y2 : ¬ z29 = 0 := by rw [hz29, if_neg c3, if_pos c4]; exact n1
            have y3 : ¬ z36 = 0 := by rw [hz36, if_pos (hr32.symm.trans hr35)]; exact n1
            exact G.ireturnN P (t := .boolean) rfl (by simp) rfl at_179 (by decide) (by decide) ⟨congrArg (fun z => some (Value.int z)) (by rw [hz37, if_neg y1, if_neg y2, if_neg y3]; rfl), trivial⟩
          refine G.if_eq P at_161 (by decide) (pcY := 178) (by decide) (pcN := 164) rfl (fun c161 => ?_) (fun c161 => ?_)
          · refine G.iconst P at_178 (v := (0 : Int32)) rfl (pc' := 179) rfl ?_
            exact J179_161 _ (by simp only [if_pos c161])
          · refine G.iload P at_164 rfl (pc' := 166) rfl ?_
            refine G.if_eq P at_166 (by decide) (pcY := 178) (by decide) (pcN := 169) rfl (fun c166 => ?_) (fun c166 => ?_)
            · refine G.iconst P at_178 (v := (0 : Int32)) rfl (pc' := 179) rfl ?_
              exact J179_161 _ (by simp only [if_neg c161, if_pos c166])
            · refine G.iload P at_169 rfl (pc' := 171) rfl ?_
              refine G.if_eq P at_171 (by decide) (pcY := 178) (by decide) (pcN := 174) rfl (fun c171 => ?_) (fun c171 => ?_)
              · refine G.iconst P at_178 (v := (0 : Int32)) rfl (pc' := 179) rfl ?_
                exact J179_161 _ (by simp only [if_neg c161, if_neg c166, if_pos c171])
              · refine G.iconst P at_174 (v := (1 : Int32)) rfl (pc' := 175) rfl ?_
                refine G.goto P at_175 (by decide) (pc' := 179) (by decide) ?_
                exact J179_161 _ (by simp only [if_neg c161, if_neg c166, if_neg c171])
        refine G.lif_ne P at_149 (by decide) (pcY := 156) (by decide) (pcN := 152) rfl (fun c149 => ?_) (fun c149 => ?_)
        · refine G.iconst P at_156 (v := (0 : Int32)) rfl (pc' := 157) rfl ?_
          exact J157_149 _ (by simp only [if_neg c149])
        · refine G.iconst P at_152 (v := (1 : Int32)) rfl (pc' := 153) rfl ?_
          refine G.goto P at_153 (by decide) (pc' := 157) (by decide) ?_
          exact J157_149 _ (by simp only [if_pos c149])
      refine G.lif_gt P at_120 (by decide) (pcY := 135) (by decide) (pcN := 123) rfl (fun c120 => ?_) (fun c120 => ?_)
      · refine G.iconst P at_135 (v := (0 : Int32)) rfl (pc' := 136) rfl ?_
        exact J136_120 _ (by simp only [if_pos c120])
      · refine G.lload P at_123 rfl (pc' := 125) rfl ?_
        refine G.lload P at_125 rfl (pc' := 127) rfl ?_
        refine G.lcmp P at_127 (pc' := 128) rfl ?_
        refine G.lif_ge P at_128 (by decide) (pcY := 135) (by decide) (pcN := 131) rfl (fun c128 => ?_) (fun c128 => ?_)
        · refine G.iconst P at_135 (v := (0 : Int32)) rfl (pc' := 136) rfl ?_
          exact J136_120 _ (by simp only [if_neg c120, if_neg c128])
        · refine G.iconst P at_131 (v := (1 : Int32)) rfl (pc' := 132) rfl ?_
          refine G.goto P at_132 (by decide) (pc' := 136) (by decide) ?_
          exact J136_120 _ (by simp only [if_neg c120, if_pos c128])
    refine G.if_lt P at_98 (by decide) (pcY := 112) (by decide) (pcN := 101) rfl (fun c98 => ?_) (fun c98 => ?_)
    · refine G.iconst P at_112 (v := (0 : Int32)) rfl (pc' := 113) rfl ?_
      exact J113_98 _ (by simp only [if_pos c98])
    · refine G.iload P at_101 rfl (pc' := 103) rfl ?_
      refine G.iload P at_103 rfl (pc' := 105) rfl ?_
      refine G.icmp_ge P at_105 (by decide) (pcY := 112) (by decide) (pcN := 108) rfl (fun c105 => ?_) (fun c105 => ?_)
      · refine G.iconst P at_112 (v := (0 : Int32)) rfl (pc' := 113) rfl ?_
        exact J113_98 _ (by simp only [if_neg c98, if_neg c105])
      · refine G.iconst P at_108 (v := (1 : Int32)) rfl (pc' := 109) rfl ?_
        refine G.goto P at_109 (by decide) (pc' := 113) (by decide) ?_
        exact J113_98 _ (by simp only [if_neg c98, if_pos c105])
  refine G.if_eq P at_3 (by decide) (pcY := 17) (by decide) (pcN := 6) rfl (fun c3 => ?_) (fun c3 => ?_)
  · refine G.iloadN P at_17 rfl (pc' := 18) rfl ?_
    refine G.ldcI P (wd hw (i := 25) rfl) at_18 (pc' := 20) rfl ?_
    refine G.iand P at_20 (pc' := 21) rfl ?_
    obtain ⟨x38, hx38⟩ : ∃ z : Int32, (p1 &&& (2147483647 : Int32)) = z := ⟨_, rfl⟩
    refine G.istore P at_21 hx38 (L' := #[.val (.long q0), .second, .val (.int p1), .val (.int p2), .val (.int x38), .unset, .unset, .unset, .unset, .unset, .unset, .unset, .unset, .unset, .unset, .unset, .unset, .unset, .unset]) rfl (pc' := 23) rfl ?_
    refine G.iload P at_23 rfl (pc' := 25) rfl ?_
    refine G.if_ne P at_25 (by decide) (pcY := 31) (by decide) (pcN := 28) rfl (fun c25 => ?_) (fun c25 => ?_)
    · exact J31_3 _ (by subst hx38; simp only [if_pos c3, if_neg c25])
    · refine G.iconst P at_28 (v := (1 : Int32)) rfl (pc' := 29) rfl ?_
      refine G.istore P at_29 rfl (L' := #[.val (.long q0), .second, .val (.int p1), .val (.int p2), .val (.int (1 : Int32)), .unset, .unset, .unset, .unset, .unset, .unset, .unset, .unset, .unset, .unset, .unset, .unset, .unset, .unset]) rfl (pc' := 31) rfl ?_
      exact J31_3 _ (by subst hx38; simp only [if_pos c3, if_pos c25])
  · refine G.iloadN P at_6 rfl (pc' := 7) rfl ?_
    refine G.bipush P at_7 (v := (15 : Int32)) rfl (pc' := 9) rfl ?_
    refine G.iand P at_9 (pc' := 10) rfl ?_
    refine G.iconst P at_10 (v := (1 : Int32)) rfl (pc' := 11) rfl ?_
    refine G.iadd P at_11 (pc' := 12) rfl ?_
    obtain ⟨x39, hx39⟩ : ∃ z : Int32, ((p1 &&& (15 : Int32)) + (1 : Int32)) = z := ⟨_, rfl⟩
    refine G.istore P at_12 hx39 (L' := #[.val (.long q0), .second, .val (.int p1), .val (.int p2), .val (.int x39), .unset, .unset, .unset, .unset, .unset, .unset, .unset, .unset, .unset, .unset, .unset, .unset, .unset, .unset]) rfl (pc' := 14) rfl ?_
    refine G.goto P at_14 (by decide) (pc' := 31) (by decide) ?_
    exact J31_3 _ (by subst hx39; simp only [if_neg c3])
set_option maxRecDepth 65536 in
set_option maxHeartbeats 40000000 in
theorem comes_1 {Post : Tables → Env → Array Value → State → Outcome → State → Prop} (hpost : ∀ tb e args s v u, (limb_1_1.after args s (.returned v) u = true ∧ limb_1_2.after args s (.returned v) u = true) → FrameEnd s (.returned v) u (Jvm.fieldLocs frame_1_writes args s ++ Jvm.arrayLocs frame_1_arrays args s ++ Jvm.staticLocs frame_1_statics s) 16 128 → Post tb e args s (.returned v) u) :
    ArmFor flags0 classFile x code maxLocals ret World_1 tables_1 room_1 Calls_1 rest_1 Pre_1 Post := by
  intro l hfl _ _ p e ha hc hk s m args below hf hA hF happ hP
  obtain ⟨hcalls, hrest, hpre⟩ := hP
  obtain ⟨-, -, -, hnamed, -, -, -, hat⟩ := (Spec.applies_iff hf).mp happ
  obtain ⟨hg, hn⟩ := and_e (Cond.before_iff.mp (show (Jvm.Cond.and given_1 narrow_1).before args s = true from hpre))
  obtain ⟨hcount, g0⟩ := and_e hg
  obtain ⟨v0, g1⟩ := and_e g0
  obtain ⟨v1, g2⟩ := and_e g1
  have v2 := g2
  obtain ⟨w0, w1, w2, rfl⟩ : ∃ w0 w1 w2 : Value, args = #[w0, w1, w2] := by
    have hs : args.size = 3 := by simpa [Cond.value, given_1] using hcount
    obtain ⟨L⟩ := args
    match L, hs with
    | [w0, w1, w2], _ => exact ⟨w0, w1, w2, rfl⟩
  have hw := fun d (hd : d ∈ tables_1) => atoms_spec (ws := Jvm.Cond.code x code maxLocals ret :: tables_1) hat d (List.mem_cons_of_mem _ hd)
  obtain ⟨i0, ei0⟩ := isL_v v0
  obtain rfl : w0 = (.long i0) := Option.some.inj ei0
  obtain ⟨i1, ei1⟩ := is_v v1
  obtain rfl : w1 = (.int i1) := Option.some.inj ei1
  obtain ⟨i2, ei2⟩ := is_v v2
  obtain rfl : w2 = (.int i2) := Option.some.inj ei2
  obtain ⟨n, o, h1, h2, h3, v, L, rfl, ⟨hQ, N⟩, hq⟩ := rm0 hw i0 i1 i2 s.heap (Nat.le_refl s.heap.size) tables_1 p e ha hc hk s m _ below hf ((Spec.applies_iff_loose hf).mp happ).1 ⟨rfl, State.Warmed39.refl s, rfl⟩ trivial
  obtain rfl : v = some (.int 1) := hQ.1
  refine ⟨n, _, h1, h2, h3, hpost _ _ _ _ _ _ ⟨Cond.after_iff.mpr rfl, Cond.after_iff.mpr (eq_i res_at (Term.int_eval (1)) rfl)⟩ ⟨hq.1, hq.2.1, (hq.2.2.sift fun y hy => Or.inr (N y hy)).mono (by decide) (by decide)⟩⟩
theorem main_1_1 : Claimed_1_1 := comes_1 fun _ _ _ _ _ _ h hF => ⟨h.1, hF⟩
theorem main_1_2 : Claimed_1_2 := comes_1 fun _ _ _ _ _ _ h hF => ⟨h.2, hF⟩
end Jvm.Pilot.@@N@@
namespace Jvm.Pilot.@@N@@
open Jvm Jvm.ClassFile Sem Op Lib Jvm.Free Jvm.Stand Jvm.Pilot.@@N@@.Jvm.D
/-! MADE BY PROGRAM (witnessworld.py) out of the Statement's table words and the real class files: 9 classes; the members and pool entries that the words name. The judged class is class 1, her method 1. -/
namespace start1
open Jvm.ClassFile
def u (s : String) : CpInfo := .utf8 (stringToUtf16 s)
/-- a pool by its gaps: so many unusable entries, then the entry; so many at the end -/
def gap : Nat → List CpInfo → List CpInfo
  | 0, r => r
  | n + 1, r => .unusable :: gap n r
def poolList (es : List (Nat × CpInfo)) (last : Nat) : List CpInfo := es.foldr (fun e r => gap e.1 (e.2 :: r)) (gap last [])
def pool (es : List (Nat × CpInfo)) (last : Nat) : Array CpInfo := ⟨poolList es last⟩
def fileOf (pool : Array CpInfo) (this : Nat) (attrs : Array Attribute := #[]) (ms : Array MethodInfo := #[]) (fl : Nat := 33) (sup : Nat := 0) (ifs : Array Nat := #[]) (fds : Array FieldInfo := #[]) : ClassFile where
  minorVersion := 0
  majorVersion := 65
  constantPool := pool
  accessFlags := fl
  thisClass := this
  superClass := sup
  interfaces := ifs
  fields := fds
  methods := ms
  attributes := attrs
def plain (name : String) (sup : Option ClassId) : Class where
  name := name
  kind := .ordinary
  loader := none
  accessFlags := 33
  super := sup
  interfaces := #[]
  cf := none
  fields := #[]
  methods := #[]
  instanceTypes := #[]
  staticTypes := #[]
  resolved := #[]
  callSites := []
  init := .initialized
  statics := none
  mirror := none

def pool0 : Array CpInfo := pool [(5, u "<init>"), (0, u "()V"), (1, .class_ 10), (1, u "java/lang/Object")] 113

def k0c0 : Code := { maxStack := 0, maxLocals := 1, code := object_method_1_code, exceptionTable := #[], attributes := #[] }
def k0m0 : Method := { name := "<init>", desc := "()V", sig := { parameters := [], returnType := none }, accessFlags := 1, code := some k0c0 }
/-- java/lang/Object -/
def k0 : Class := { plain "java/lang/Object" none with
  accessFlags := 33
  interfaces := #[]
  cf := some (fileOf pool0 8 #[] #[{ accessFlags := 1, nameIndex := 5, descriptorIndex := 6, attributes := #[] }] 33 0 #[] #[])
  fields := #[]
  methods := #[k0m0]
  instanceTypes := #[]
  staticTypes := #[]
  resolved := Array.replicate 124 none
  statics := none }

def pool1 : Array CpInfo := pool [(2, .class_ 4), (1, u "java/lang/Object"), (0, u "<init>"), (0, u "()V"), (0, .integer 2147483647), (0, .class_ 9), (0, u "com/example/routewright/routewright/SearchRandom"), (0, .methodref 8 11), (0, .nameAndType 5 12), (0, u "(J)V"), (0, .methodref 8 14), (0, .nameAndType 15 16), (0, u "nextInt"), (0, u "(I)I"), (0, .methodref 8 18), (0, .nameAndType 19 20), (0, u "nextLong"), (0, u "()J"), (0, .class_ 22), (0, u "com/example/routewright/routewright/SearchRandomNextIntPinLaw"), (2, u "law"), (0, u "(JII)Z")] 3

def k1m0 : Method := { name := "<init>", desc := "()V", sig := { parameters := [], returnType := none }, accessFlags := 1, code := none }
def k1c1 : Code := { maxStack := 4, maxLocals := 19, code := code, exceptionTable := #[], attributes := #[] }
def k1m1 : Method := { name := "law", desc := "(JII)Z", sig := { parameters := [.long, .int, .int], returnType := some .boolean }, accessFlags := 9, code := some k1c1 }
/-- com/example/routewright/routewright/SearchRandomNextIntPinLaw -/
def k1 : Class := { plain "com/example/routewright/routewright/SearchRandomNextIntPinLaw" (some 0) with
  accessFlags := 49
  interfaces := #[]
  cf := some (fileOf pool1 21 #[] #[{ accessFlags := 1, nameIndex := 5, descriptorIndex := 6, attributes := #[] }, { accessFlags := 9, nameIndex := 25, descriptorIndex := 26, attributes := #[] }] 49 2 #[] #[])
  fields := #[]
  methods := #[k1m0, k1m1]
  instanceTypes := #[]
  staticTypes := #[]
  resolved := Array.replicate 30 none
  statics := none }

def pool2 : Array CpInfo := pool [(1, .methodref 2 3), (0, .class_ 4), (0, .nameAndType 5 6), (0, u "java/lang/Object"), (0, u "<init>"), (0, u "()V"), (0, .fieldref 8 9), (0, .class_ 10), (0, .nameAndType 11 12), (0, u "com/example/routewright/routewright/SearchRandom"), (0, u "state"), (0, u "J"), (0, .long 11400714819323198485), (1, .long 13787848793156543929), (1, .long 10723151780598845931), (1, .methodref 8 20), (0, .nameAndType 21 22), (0, u "nextLong"), (0, u "()J"), (2, u "GAMMA"), (1, u "(J)V"), (5, u "nextInt"), (0, u "(I)I")] 2

def k2c0 : Code := { maxStack := 3, maxLocals := 3, code := prog_47_method_1_code, exceptionTable := #[], attributes := #[] }
def k2m0 : Method := { name := "<init>", desc := "(J)V", sig := { parameters := [.long], returnType := none }, accessFlags := 0, code := some k2c0 }
def k2c1 : Code := { maxStack := 5, maxLocals := 3, code := prog_47_method_2_code, exceptionTable := #[], attributes := #[] }
def k2m1 : Method := { name := "nextLong", desc := "()J", sig := { parameters := [], returnType := some .long }, accessFlags := 0, code := some k2c1 }
def k2c2 : Code := { maxStack := 4, maxLocals := 2, code := prog_47_method_5_code, exceptionTable := #[], attributes := #[] }
def k2m2 : Method := { name := "nextInt", desc := "(I)I", sig := { parameters := [.int], returnType := some .int }, accessFlags := 0, code := some k2c2 }
/-- com/example/routewright/routewright/SearchRandom -/
def k2 : Class := { plain "com/example/routewright/routewright/SearchRandom" (some 0) with
  accessFlags := 32
  interfaces := #[]
  cf := some (fileOf pool2 8 #[] #[{ accessFlags := 0, nameIndex := 5, descriptorIndex := 27, attributes := #[] }, { accessFlags := 0, nameIndex := 21, descriptorIndex := 22, attributes := #[] }, { accessFlags := 0, nameIndex := 33, descriptorIndex := 34, attributes := #[] }] 32 2 #[] #[{ accessFlags := 26, nameIndex := 25, descriptorIndex := 12, attributes := #[] }, { accessFlags := 2, nameIndex := 11, descriptorIndex := 12, attributes := #[] }])
  fields := #[{ name := "GAMMA", type := .long, accessFlags := 26, slot := 0, constantValue := 0 }, { name := "state", type := .long, accessFlags := 2, slot := 0, constantValue := 0 }]
  methods := #[k2m0, k2m1, k2m2]
  instanceTypes := #[.long]
  staticTypes := #[.long]
  resolved := Array.replicate 37 none
  statics := none }

def pool3 : Array CpInfo := pool [(1, u "java/lang/Cloneable"), (0, .class_ 1), (0, u "java/lang/Object"), (0, .class_ 3)] 3

/-- java/lang/Cloneable -/
def k3 : Class := { plain "java/lang/Cloneable" (some 0) with
  accessFlags := 1537
  interfaces := #[]
  cf := some (fileOf pool3 2 #[] #[] 1537 4 #[] #[])
  fields := #[]
  methods := #[]
  instanceTypes := #[]
  staticTypes := #[]
  resolved := Array.replicate 8 none
  statics := none }

def pool4 : Array CpInfo := pool [(1, u "java/io/Serializable"), (0, .class_ 1), (0, u "java/lang/Object"), (0, .class_ 3)] 3

/-- java/io/Serializable -/
def k4 : Class := { plain "java/io/Serializable" (some 0) with
  accessFlags := 1537
  interfaces := #[]
  cf := some (fileOf pool4 2 #[] #[] 1537 4 #[] #[])
  fields := #[]
  methods := #[]
  instanceTypes := #[]
  staticTypes := #[]
  resolved := Array.replicate 8 none
  statics := none }

/-- the primitive byte -/
def k5 : Class := { plain "byte" none with kind := .primitive 'B', accessFlags := 0x411 }
/-- [B -/
def k6 : Class := { plain "[B" (some 0) with kind := .array 5 .byte, interfaces := #[3, 4], accessFlags := 1041 }

/-- the primitive int -/
def k7 : Class := { plain "int" none with kind := .primitive 'I', accessFlags := 0x411 }
/-- [I -/
def k8 : Class := { plain "[I" (some 0) with kind := .array 7 .int, interfaces := #[3, 4], accessFlags := 1041 }

def heap : Heap := #[]
def classes : Array Class := #[k0, k1, k2, k3, k4, k5, k6, k7, k8]
def interned : List (Array UInt16 × Addr) := []
def slotsUsed : Nat := 0
def theMethod : MethodId := ⟨1, 1⟩
def args0 : Array Value := #[.long 5, .int 5, .int 5]
def aboutOver (below : List Frame) : State where
  vm := { classes := classes, interned := interned.toArray }
  heap := heap
  slotsUsed := slotsUsed
  threads := #[{ frames := .invoking theMethod args0 :: below }]
def below0 : List Frame := [.native { method := ⟨0, 0⟩, args := #[] }]
def about1 : State := aboutOver below0
def p0 : Program := .bare "" "" ""
def e0 : Env := launch0.env 0 0 0
theorem w_frames : about1.frames = Frame.invoking theMethod args0 :: below0 := rfl
set_option maxRecDepth 65536 in
theorem w_args : argsFit about1.vm theMethod args0 = true := by decide +kernel
set_option maxRecDepth 65536 in
theorem w_heap : heapFits about1 = true := by decide +kernel
set_option maxRecDepth 65536 in
theorem w_runnable : about1.curStatus? = some .runnable := by decide +kernel
set_option maxRecDepth 65536 in
theorem w_alone : about1.alone = true := by decide +kernel
set_option maxRecDepth 65536 in
theorem w_named : about1.methodNamed? x = some theMethod := by decide +kernel
set_option maxRecDepth 65536 in
theorem w_hears : about1.hears theMethod below0 = true := by decide +kernel
set_option maxRecDepth 65536 in
theorem w_ripe : about1.ripe theMethod args0 below0 = true := by decide +kernel
theorem w_running : about1.status = .running := rfl
set_option maxRecDepth 65536 in
theorem w_room : about1.hasRoom e0.platform room_1 = true :=
  launch0.hasRoom_least _ room_1 (by decide +kernel) (by decide +kernel) (by decide +kernel) (by decide +kernel) (by decide +kernel) (by decide +kernel)
theorem allAtoms_all (ts : List Jvm.Cond) (a : Array Jvm.Value) (st : Jvm.State) : (allAtoms ts).before a st = ts.all (fun c => c.before a st) := by
  induction ts with
  | nil => rfl
  | cons c t ih =>
    show (Jvm.Cond.and c (allAtoms t)).before a st = _
    rw [Jvm.Cond.before_and, ih, List.all_cons]
def words1 : List Jvm.Cond := Jvm.Cond.code x code maxLocals ret :: tables_1
/-- a 'code' word, met by the world's own term for the bytes: nothing is compared byte by byte -/
theorem code_word {y : MethodName} {bytes : ByteArray} {mx : Nat} {rt : Option FieldType} {a : Array Value} {s : State} {m : MethodId} {meth : Method} {c : Code} (h1 : s.methodNamed? y = some m) (h2 : s.vm.method? m = some meth) (h3 : meth.code = some c) (h4 : c.code = bytes)
    (h5 : (c.maxLocals == mx && c.exceptionTable.isEmpty && decide (c.maxStack ≤ mostOperands) && decide (meth.sig.returnType = rt) && !meth.locks && decide (parseMethodDescriptor y.desc = some meth.sig)) = true) : (Jvm.Cond.code y bytes mx rt).before a s = true := by
  simp only [Bool.and_eq_true, beq_iff_eq, Bool.not_eq_true', decide_eq_true_eq] at h5
  obtain ⟨⟨⟨⟨⟨g1, g2⟩, g3⟩, g4⟩, g5⟩, g6⟩ := h5
  simp [Cond.before, Cond.holds, Cond.value, h1, h2, h3, h4, g1, g2, g3, g4, g5, g6]
def isCode : Jvm.Cond → Bool
  | .code _ _ _ _ => true
  | _ => false
theorem all_split {L : List Jvm.Cond} {P : Jvm.Cond → Bool} (h1 : L.all (fun c => isCode c || P c) = true) (h2 : ∀ c ∈ L.filter isCode, P c = true) : L.all P = true := by
  refine List.all_eq_true.mpr fun c hc => ?_
  have h := List.all_eq_true.mp h1 c hc
  rcases Bool.eq_false_or_eq_true (isCode c) with hi | hi
  · exact h2 c (List.mem_filter.mpr ⟨hc, hi⟩)
  · simpa [hi] using h
set_option maxRecDepth 65536 in
theorem w_c0 : (Jvm.Cond.code x code maxLocals ret).before args0 about1 = true := code_word (m := ⟨1, 1⟩) (meth := k1m1) (c := k1c1) (by decide +kernel) rfl rfl rfl (by decide +kernel)
set_option maxRecDepth 65536 in
theorem w_c1 : (Jvm.Cond.code ({ cls := "com/example/routewright/routewright/SearchRandom", name := "<init>", desc := "(J)V" } : Jvm.MethodName) prog_47_method_1_code (3 : Nat) (Option.none : Option Jvm.ClassFile.FieldType)).before args0 about1 = true := code_word (m := ⟨2, 0⟩) (meth := k2m0) (c := k2c0) (by decide +kernel) rfl rfl rfl (by decide +kernel)
set_option maxRecDepth 65536 in
theorem w_c2 : (Jvm.Cond.code ({ cls := "java/lang/Object", name := "<init>", desc := "()V" } : Jvm.MethodName) object_method_1_code (1 : Nat) (Option.none : Option Jvm.ClassFile.FieldType)).before args0 about1 = true := code_word (m := ⟨0, 0⟩) (meth := k0m0) (c := k0c0) (by decide +kernel) rfl rfl rfl (by decide +kernel)
set_option maxRecDepth 65536 in
theorem w_c3 : (Jvm.Cond.code ({ cls := "com/example/routewright/routewright/SearchRandom", name := "nextInt", desc := "(I)I" } : Jvm.MethodName) prog_47_method_5_code (2 : Nat) (Option.some Jvm.ClassFile.FieldType.int)).before args0 about1 = true := code_word (m := ⟨2, 2⟩) (meth := k2m2) (c := k2c2) (by decide +kernel) rfl rfl rfl (by decide +kernel)
set_option maxRecDepth 65536 in
theorem w_c4 : (Jvm.Cond.code ({ cls := "com/example/routewright/routewright/SearchRandom", name := "nextLong", desc := "()J" } : Jvm.MethodName) prog_47_method_2_code (3 : Nat) (Option.some Jvm.ClassFile.FieldType.long)).before args0 about1 = true := code_word (m := ⟨2, 1⟩) (meth := k2m1) (c := k2c1) (by decide +kernel) rfl rfl rfl (by decide +kernel)
def codes1 : List Jvm.Cond := [Jvm.Cond.code x code maxLocals ret, Jvm.Cond.code ({ cls := "com/example/routewright/routewright/SearchRandom", name := "<init>", desc := "(J)V" } : Jvm.MethodName) prog_47_method_1_code (3 : Nat) (Option.none : Option Jvm.ClassFile.FieldType), Jvm.Cond.code ({ cls := "java/lang/Object", name := "<init>", desc := "()V" } : Jvm.MethodName) object_method_1_code (1 : Nat) (Option.none : Option Jvm.ClassFile.FieldType), Jvm.Cond.code ({ cls := "com/example/routewright/routewright/SearchRandom", name := "nextInt", desc := "(I)I" } : Jvm.MethodName) prog_47_method_5_code (2 : Nat) (Option.some Jvm.ClassFile.FieldType.int), Jvm.Cond.code ({ cls := "com/example/routewright/routewright/SearchRandom", name := "nextLong", desc := "()J" } : Jvm.MethodName) prog_47_method_2_code (3 : Nat) (Option.some Jvm.ClassFile.FieldType.long)]
set_option maxRecDepth 65536 in
theorem codes_eq : words1.filter isCode = codes1 := rfl
theorem w_codes : ∀ c ∈ words1.filter isCode, c.before args0 about1 = true := by
  rw [codes_eq]
  intro c hc
  simp only [codes1, List.mem_cons, List.not_mem_nil, or_false] at hc
  rcases hc with rfl | rfl | rfl | rfl | rfl
  · exact w_c0
  · exact w_c1
  · exact w_c2
  · exact w_c3
  · exact w_c4
set_option maxRecDepth 65536 in
theorem w_t1 : (words1.take 24).all (fun c => isCode c || c.before args0 about1) = true := by decide +kernel
set_option maxRecDepth 65536 in
theorem w_t2 : (words1.drop 24).all (fun c => isCode c || c.before args0 about1) = true := by decide +kernel
theorem w_tables : (allAtoms (Jvm.Cond.code x code maxLocals ret :: tables_1)).before args0 about1 = true := by
  rw [allAtoms_all]
  show words1.all (fun c => c.before args0 about1) = true
  refine all_split ?_ w_codes
  rw [← List.take_append_drop 24 words1, List.all_append, w_t1, w_t2]
  rfl
set_option maxRecDepth 65536 in
theorem w_case : (Jvm.Cond.and given_1 narrow_1).before args0 about1 = true := by decide +kernel
theorem w_applies : (headSpec (Jvm.Cond.code x code maxLocals ret :: tables_1) room_1).applies x e0.platform about1 = true :=
  (Spec.applies_iff w_frames).mpr ⟨w_running, w_runnable, w_alone, w_named, w_hears, w_ripe, w_room, w_tables⟩
theorem atStart : AtStart classFile x code maxLocals ret World_1 tables_1 room_1 Calls_1 rest_1 Pre_1 launch0 p0 e0 about1 theMethod args0 below0 :=
  ⟨lists_1, trivial, launch0.admits_env _ _ _, launch0.least_env, fairChoices_fair.cas, fairChoices_fair.clock, w_frames, w_args, w_heap, w_applies, trivial, trivial, w_case⟩
end start1
theorem witness_1 : WitnessClaimed_1 := ⟨start1.p0, start1.e0, start1.about1, start1.theMethod, start1.args0, start1.below0, start1.atStart⟩
end Jvm.Pilot.@@N@@
