import JvmDerived
import JvmDerived.Pilot.@@N@@Statement
import JvmDerived.Pilot.@@N@@Code
set_option linter.unusedVariables false
set_option linter.unusedSimpArgs false
namespace Jvm.OwnW
open Sem ClassFile Op Lib Jvm.Free Jvm.Stand Jvm.LawKit Jvm.RoadKit
/-- where a walk stands: the method's facts, the heap, nothing old written -/
def Pos (Z : State) (y : MethodName) (bytes : ByteArray) (maxL : Nat) (ret : Option FieldType) (n0 : Nat) (p : Program) (l : Launch) (e : Env) (R : Room) (s : State) (m : MethodId) (args : Array Value) (below : List Frame) (meth : Method) (c : Code) (T : State) (h : Heap) (cells slots : Nat) : Prop :=
  (p.tables.exec = Jvm.exec ∧ c.code = bytes ∧ c.maxLocals = maxL ∧ s.vm.findClass y.cls = some m.cls ∧ meth.name = y.name ∧ meth.sig.returnType = ret ∧ meth.locks = false ∧ Z.Warmed39 s.vm ∧ n0 ≤ s.heap.size) ∧
  ∃ locs, Stand p l e R s m args below meth c T locs cells slots ∧ T.heap = h ∧ Fr n0 locs
/-- the run from t comes to a return of which Q holds -/
def Goes (p : Program) (e : Env) (below : List Frame) (s : State) (n0 kc ks : Nat) (Q : Option Value → Heap → Prop) (t : State) : Prop :=
  ∃ s₂ o, Steps p.tables e below t s₂ ∧ s₂.status = .running ∧ Ended s₂ below o ∧ ∃ v L, o = .returned v ∧ (Q v s₂.heap ∧ Fr n0 L) ∧ FrameEnd s o s₂ L kc ks
/-- a method's contract: called with these arguments at the heap h0 it returns, and Q holds of the value and the heap -/
def Con (l : Launch) (Z : State) (y : MethodName) (bytes : ByteArray) (maxL : Nat) (ret : Option FieldType) (rm : Room) (n0 : Nat) (as : Array Value) (h0 : Heap) (Q : Option Value → Heap → Prop) : Prop :=
  ∀ ws : List Jvm.Cond, MetFree l y (head1 (Jvm.Cond.code y bytes maxL ret :: ws) rm) (fun a U => a = as ∧ Z.Warmed39 U.vm ∧ U.heap = h0) (fun _ _ _ _ _ => True) (fun _ U o U' => ∃ v L, o = .returned v ∧ (Q v U'.heap ∧ Fr n0 L) ∧ FrameEnd U o U' L rm.cells rm.slots)
section Base
variable {Z : State} {y : MethodName} {bytes : ByteArray} {maxL : Nat} {ret : Option FieldType} {n0 : Nat} {p : Program} {l : Launch} {e : Env} {R : Room} {s : State} {m : MethodId} {args : Array Value} {below : List Frame} {meth : Method} {c : Code} {T : State} {h : Heap} {cells slots kc ks : Nat} {Q : Option Value → Heap → Prop} {pc pc' pcY pcN : Nat} {L L' : Array Slot} {S : List Value} {a0 : Array Value}
theorem Goes.via {t t' : State} (k : ∀ target, Steps p.tables e below t' target → Steps p.tables e below t target) (G : Goes p e below s n0 kc ks Q t') : Goes p e below s n0 kc ks Q t := by
  obtain ⟨s₂, o, h1, r⟩ := G
  exact ⟨s₂, o, k _ h1, r⟩
theorem Goes.mono {Q' : Option Value → Heap → Prop} {t : State} (k : ∀ v h, Q' v h → Q v h) (G : Goes p e below s n0 kc ks Q' t) : Goes p e below s n0 kc ks Q t := by
  obtain ⟨s₂, o, h1, h2, h3, v, L, h4, ⟨h5, h6⟩, h7⟩ := G
  exact ⟨s₂, o, h1, h2, h3, v, L, h4, ⟨k _ _ h5, h6⟩, h7⟩
theorem Con.mono {rm : Room} {as : Array Value} {h0 : Heap} {Q' : Option Value → Heap → Prop} (K : Con l Z y bytes maxL ret rm n0 as h0 Q') (k : ∀ v h, Q' v h → Q v h) : Con l Z y bytes maxL ret rm n0 as h0 Q := by
  intro ws p e ha hc hk s m args below hf happ hP hK
  obtain ⟨n, o, h1, h2, h3, v, L, h4, ⟨h5, h6⟩, h7⟩ := K ws p e ha hc hk s m args below hf happ hP hK
  exact ⟨n, o, h1, h2, h3, v, L, h4, ⟨k _ _ h5, h6⟩, h7⟩
theorem Con.body {rm : Room} {as : Array Value} {h0 : Heap} {Ls : Array Slot} (pn : plainFor y = true) (hn0 : n0 ≤ h0.size) (ef : ∀ m, entryFrame m as maxL = mkF m 0 Ls [])
    (H : ∀ p e s m below meth c T, Pos Z y bytes maxL ret n0 p l e rm s m as below meth c T h0 0 0 → Goes p e below s n0 rm.cells rm.slots Q (T.setTop (mkF m 0 Ls []))) : Con l Z y bytes maxL ret rm n0 as h0 Q := by
  intro ws
  refine MetFree.of_bodySF pn hisR ?_
  intro p e s m args below meth c s₁ Bd hml0 hP hK
  obtain ⟨rfl, hZ, hh⟩ := hP
  have X0 : Stand p l e rm s m args below meth c s₁ [] 0 0 := Stand.of_body Bd
  have e0 : s₁.heap = h0 := by rw [← hh, Bd.state]; rfl
  rw [ef]
  exact H p e s m below meth c s₁ ⟨⟨Bd.exec, Bd.bytes, hml0, findClass_of_methodNamed Bd.named, (name_of_methodNamed Bd.named Bd.method).1, Bd.returns, Bd.notSynchronized, hZ, by rw [hh]; exact hn0⟩, [], X0, e0, Fr.nil n0⟩
theorem Pos.sz (P : Pos Z y bytes maxL ret n0 p l e R s m args below meth c T h cells slots) : n0 ≤ h.size := by
  obtain ⟨⟨-, -, -, -, -, -, -, -, hn0⟩, locs, X, rfl, -⟩ := P
  exact Nat.le_trans hn0 X.same.2.1
end Base
namespace G
section Plain
variable {Z : State} {y : MethodName} {bytes : ByteArray} {maxL : Nat} {ret : Option FieldType} {n0 : Nat} {p : Program} {l : Launch} {e : Env} {R : Room} {s : State} {m : MethodId} {args : Array Value} {below : List Frame} {meth : Method} {c : Code} {T : State} {h : Heap} {cells slots kc ks : Nat} {Q : Option Value → Heap → Prop} {pc pc' pcY pcN : Nat} {L L' : Array Slot} {S : List Value} {a0 : Array Value}
theorem iload (P : Pos Z y bytes maxL ret n0 p l e R s m args below meth c T h cells slots) {k : Nat} {v : Int32} (hd : decode bytes pc = .ok (.iload k, 2)) (hl : L[k]? = some (.val (.int v))) (hp : pc + 2 = pc') (k : Goes p e below s n0 kc ks Q (T.setTop (mkF m pc' L (.int v :: S)))) : Goes p e below s n0 kc ks Q (T.setTop (mkF m pc L S)) := by
  obtain ⟨⟨hx, rfl, rfl, hown, hnm, rfl, hlk, hZ, hn0⟩, locs, X, rfl, N⟩ := P
  subst hp
  exact k.via fun t q => XS.iload X.here hx rfl hd hl q
theorem iloadN (P : Pos Z y bytes maxL ret n0 p l e R s m args below meth c T h cells slots) {k : Fin 4} {v : Int32} (hd : decode bytes pc = .ok (.iload_n k, 1)) (hl : L[k.val]? = some (.val (.int v))) (hp : pc + 1 = pc') (k : Goes p e below s n0 kc ks Q (T.setTop (mkF m pc' L (.int v :: S)))) : Goes p e below s n0 kc ks Q (T.setTop (mkF m pc L S)) := by
  obtain ⟨⟨hx, rfl, rfl, hown, hnm, rfl, hlk, hZ, hn0⟩, locs, X, rfl, N⟩ := P
  subst hp
  exact k.via fun t q => XS.iloadN X.here hx rfl hd hl q
theorem lload (P : Pos Z y bytes maxL ret n0 p l e R s m args below meth c T h cells slots) {k : Nat} {v : Int64} (hd : decode bytes pc = .ok (.lload k, 2)) (hl : L[k]? = some (.val (.long v))) (hp : pc + 2 = pc') (k : Goes p e below s n0 kc ks Q (T.setTop (mkF m pc' L (.long v :: S)))) : Goes p e below s n0 kc ks Q (T.setTop (mkF m pc L S)) := by
  obtain ⟨⟨hx, rfl, rfl, hown, hnm, rfl, hlk, hZ, hn0⟩, locs, X, rfl, N⟩ := P
  subst hp
  exact k.via fun t q => XS.lload X.here hx rfl hd hl q
theorem lloadN (P : Pos Z y bytes maxL ret n0 p l e R s m args below meth c T h cells slots) {k : Fin 4} {v : Int64} (hd : decode bytes pc = .ok (.lload_n k, 1)) (hl : L[k.val]? = some (.val (.long v))) (hp : pc + 1 = pc') (k : Goes p e below s n0 kc ks Q (T.setTop (mkF m pc' L (.long v :: S)))) : Goes p e below s n0 kc ks Q (T.setTop (mkF m pc L S)) := by
  obtain ⟨⟨hx, rfl, rfl, hown, hnm, rfl, hlk, hZ, hn0⟩, locs, X, rfl, N⟩ := P
  subst hp
  exact k.via fun t q => XS.lloadN X.here hx rfl hd hl q
theorem aload (P : Pos Z y bytes maxL ret n0 p l e R s m args below meth c T h cells slots) {k : Nat} {v : Value} (hd : decode bytes pc = .ok (.aload k, 2)) (hl : L[k]? = some (.val v)) (hv : v.isRef = true) (hp : pc + 2 = pc') (k : Goes p e below s n0 kc ks Q (T.setTop (mkF m pc' L (v :: S)))) : Goes p e below s n0 kc ks Q (T.setTop (mkF m pc L S)) := by
  obtain ⟨⟨hx, rfl, rfl, hown, hnm, rfl, hlk, hZ, hn0⟩, locs, X, rfl, N⟩ := P
  subst hp
  exact k.via fun t q => XS.aload X.here hx rfl hd hl hv q
theorem aloadN (P : Pos Z y bytes maxL ret n0 p l e R s m args below meth c T h cells slots) {k : Fin 4} {v : Value} (hd : decode bytes pc = .ok (.aload_n k, 1)) (hl : L[k.val]? = some (.val v)) (hv : v.isRef = true) (hp : pc + 1 = pc') (k : Goes p e below s n0 kc ks Q (T.setTop (mkF m pc' L (v :: S)))) : Goes p e below s n0 kc ks Q (T.setTop (mkF m pc L S)) := by
  obtain ⟨⟨hx, rfl, rfl, hown, hnm, rfl, hlk, hZ, hn0⟩, locs, X, rfl, N⟩ := P
  subst hp
  exact k.via fun t q => XS.aloadN X.here hx rfl hd hl hv q
theorem istore (P : Pos Z y bytes maxL ret n0 p l e R s m args below meth c T h cells slots) {k : Nat} {v v' : Int32} (hd : decode bytes pc = .ok (.istore k, 2)) (hv : v = v') (hl : storeLocals L k (.int v') = some L') (hp : pc + 2 = pc') (k : Goes p e below s n0 kc ks Q (T.setTop (mkF m pc' L' S))) : Goes p e below s n0 kc ks Q (T.setTop (mkF m pc L (.int v :: S))) := by
  obtain ⟨⟨hx, rfl, rfl, hown, hnm, rfl, hlk, hZ, hn0⟩, locs, X, rfl, N⟩ := P
  subst hp hv
  exact k.via fun t q => XS.istore X.here hx rfl hd rfl hl q
theorem istoreN (P : Pos Z y bytes maxL ret n0 p l e R s m args below meth c T h cells slots) {k : Fin 4} {v v' : Int32} (hd : decode bytes pc = .ok (.istore_n k, 1)) (hv : v = v') (hl : storeLocals L k.val (.int v') = some L') (hp : pc + 1 = pc') (k : Goes p e below s n0 kc ks Q (T.setTop (mkF m pc' L' S))) : Goes p e below s n0 kc ks Q (T.setTop (mkF m pc L (.int v :: S))) := by
  obtain ⟨⟨hx, rfl, rfl, hown, hnm, rfl, hlk, hZ, hn0⟩, locs, X, rfl, N⟩ := P
  subst hp hv
  exact k.via fun t q => XS.istoreN X.here hx rfl hd rfl hl q
theorem lstore (P : Pos Z y bytes maxL ret n0 p l e R s m args below meth c T h cells slots) {k : Nat} {v v' : Int64} (hd : decode bytes pc = .ok (.lstore k, 2)) (hv : v = v') (hl : storeLocals L k (.long v') = some L') (hp : pc + 2 = pc') (k : Goes p e below s n0 kc ks Q (T.setTop (mkF m pc' L' S))) : Goes p e below s n0 kc ks Q (T.setTop (mkF m pc L (.long v :: S))) := by
  obtain ⟨⟨hx, rfl, rfl, hown, hnm, rfl, hlk, hZ, hn0⟩, locs, X, rfl, N⟩ := P
  subst hp hv
  exact k.via fun t q => XS.lstore X.here hx rfl hd rfl hl q
theorem lstoreN (P : Pos Z y bytes maxL ret n0 p l e R s m args below meth c T h cells slots) {k : Fin 4} {v v' : Int64} (hd : decode bytes pc = .ok (.lstore_n k, 1)) (hv : v = v') (hl : storeLocals L k.val (.long v') = some L') (hp : pc + 1 = pc') (k : Goes p e below s n0 kc ks Q (T.setTop (mkF m pc' L' S))) : Goes p e below s n0 kc ks Q (T.setTop (mkF m pc L (.long v :: S))) := by
  obtain ⟨⟨hx, rfl, rfl, hown, hnm, rfl, hlk, hZ, hn0⟩, locs, X, rfl, N⟩ := P
  subst hp hv
  exact k.via fun t q => XS.lstoreN X.here hx rfl hd rfl hl q
theorem astore (P : Pos Z y bytes maxL ret n0 p l e R s m args below meth c T h cells slots) {k : Nat} {v : Value} (hd : decode bytes pc = .ok (.astore k, 2)) (hv : v.isRef = true) (hl : storeLocals L k v = some L') (hp : pc + 2 = pc') (k : Goes p e below s n0 kc ks Q (T.setTop (mkF m pc' L' S))) : Goes p e below s n0 kc ks Q (T.setTop (mkF m pc L (v :: S))) := by
  obtain ⟨⟨hx, rfl, rfl, hown, hnm, rfl, hlk, hZ, hn0⟩, locs, X, rfl, N⟩ := P
  subst hp
  exact k.via fun t q => XS.astore X.here hx rfl hd rfl hv hl q
theorem astoreN (P : Pos Z y bytes maxL ret n0 p l e R s m args below meth c T h cells slots) {k : Fin 4} {v : Value} (hd : decode bytes pc = .ok (.astore_n k, 1)) (hv : v.isRef = true) (hl : storeLocals L k.val v = some L') (hp : pc + 1 = pc') (k : Goes p e below s n0 kc ks Q (T.setTop (mkF m pc' L' S))) : Goes p e below s n0 kc ks Q (T.setTop (mkF m pc L (v :: S))) := by
  obtain ⟨⟨hx, rfl, rfl, hown, hnm, rfl, hlk, hZ, hn0⟩, locs, X, rfl, N⟩ := P
  subst hp
  exact k.via fun t q => XS.astoreN X.here hx rfl hd rfl hv hl q
theorem iconst (P : Pos Z y bytes maxL ret n0 p l e R s m args below meth c T h cells slots) {i : Int} {v : Int32} (hd : decode bytes pc = .ok (.iconst i, 1)) (hv : Int32.ofInt i = v) (hp : pc + 1 = pc') (k : Goes p e below s n0 kc ks Q (T.setTop (mkF m pc' L (.int v :: S)))) : Goes p e below s n0 kc ks Q (T.setTop (mkF m pc L S)) := by
  obtain ⟨⟨hx, rfl, rfl, hown, hnm, rfl, hlk, hZ, hn0⟩, locs, X, rfl, N⟩ := P
  subst hp hv
  exact k.via fun t q => XS.iconst X.here hx rfl hd q
theorem bipush (P : Pos Z y bytes maxL ret n0 p l e R s m args below meth c T h cells slots) {i : Int} {v : Int32} (hd : decode bytes pc = .ok (.bipush i, 2)) (hv : (Int8.ofInt i).toInt32 = v) (hp : pc + 2 = pc') (k : Goes p e below s n0 kc ks Q (T.setTop (mkF m pc' L (.int v :: S)))) : Goes p e below s n0 kc ks Q (T.setTop (mkF m pc L S)) := by
  obtain ⟨⟨hx, rfl, rfl, hown, hnm, rfl, hlk, hZ, hn0⟩, locs, X, rfl, N⟩ := P
  subst hp hv
  exact k.via fun t q => XS.bipush X.here hx rfl hd q
theorem sipush (P : Pos Z y bytes maxL ret n0 p l e R s m args below meth c T h cells slots) {i : Int} {v : Int32} (hd : decode bytes pc = .ok (.sipush i, 3)) (hv : (Int16.ofInt i).toInt32 = v) (hp : pc + 3 = pc') (k : Goes p e below s n0 kc ks Q (T.setTop (mkF m pc' L (.int v :: S)))) : Goes p e below s n0 kc ks Q (T.setTop (mkF m pc L S)) := by
  obtain ⟨⟨hx, rfl, rfl, hown, hnm, rfl, hlk, hZ, hn0⟩, locs, X, rfl, N⟩ := P
  subst hp hv
  exact k.via fun t q => XS.sipush X.here hx rfl hd q
theorem lconst (P : Pos Z y bytes maxL ret n0 p l e R s m args below meth c T h cells slots) {i : Fin 2} {v : Int64} (hd : decode bytes pc = .ok (.lconst i, 1)) (hv : Int64.ofNat i = v) (hp : pc + 1 = pc') (k : Goes p e below s n0 kc ks Q (T.setTop (mkF m pc' L (.long v :: S)))) : Goes p e below s n0 kc ks Q (T.setTop (mkF m pc L S)) := by
  obtain ⟨⟨hx, rfl, rfl, hown, hnm, rfl, hlk, hZ, hn0⟩, locs, X, rfl, N⟩ := P
  subst hp hv
  exact k.via fun t q => XS.lconst X.here hx rfl hd q
theorem aconstNull (P : Pos Z y bytes maxL ret n0 p l e R s m args below meth c T h cells slots) (hd : decode bytes pc = .ok (.aconst_null, 1)) (hp : pc + 1 = pc') (k : Goes p e below s n0 kc ks Q (T.setTop (mkF m pc' L (.null :: S)))) : Goes p e below s n0 kc ks Q (T.setTop (mkF m pc L S)) := by
  obtain ⟨⟨hx, rfl, rfl, hown, hnm, rfl, hlk, hZ, hn0⟩, locs, X, rfl, N⟩ := P
  subst hp
  exact k.via fun t q => XS.aconstNull X.here hx rfl hd q
theorem iadd (P : Pos Z y bytes maxL ret n0 p l e R s m args below meth c T h cells slots) {x z : Int32} (hd : decode bytes pc = .ok (.iadd, 1)) (hp : pc + 1 = pc') (k : Goes p e below s n0 kc ks Q (T.setTop (mkF m pc' L (.int (x + z) :: S)))) : Goes p e below s n0 kc ks Q (T.setTop (mkF m pc L (.int z :: .int x :: S))) := by
  obtain ⟨⟨hx, rfl, rfl, hown, hnm, rfl, hlk, hZ, hn0⟩, locs, X, rfl, N⟩ := P
  subst hp
  exact k.via fun t q => XS.iadd X.here hx rfl hd rfl q
theorem isub (P : Pos Z y bytes maxL ret n0 p l e R s m args below meth c T h cells slots) {x z : Int32} (hd : decode bytes pc = .ok (.isub, 1)) (hp : pc + 1 = pc') (k : Goes p e below s n0 kc ks Q (T.setTop (mkF m pc' L (.int (x - z) :: S)))) : Goes p e below s n0 kc ks Q (T.setTop (mkF m pc L (.int z :: .int x :: S))) := by
  obtain ⟨⟨hx, rfl, rfl, hown, hnm, rfl, hlk, hZ, hn0⟩, locs, X, rfl, N⟩ := P
  subst hp
  exact k.via fun t q => XS.isub X.here hx rfl hd rfl q
theorem imul (P : Pos Z y bytes maxL ret n0 p l e R s m args below meth c T h cells slots) {x z : Int32} (hd : decode bytes pc = .ok (.imul, 1)) (hp : pc + 1 = pc') (k : Goes p e below s n0 kc ks Q (T.setTop (mkF m pc' L (.int (x * z) :: S)))) : Goes p e below s n0 kc ks Q (T.setTop (mkF m pc L (.int z :: .int x :: S))) := by
  obtain ⟨⟨hx, rfl, rfl, hown, hnm, rfl, hlk, hZ, hn0⟩, locs, X, rfl, N⟩ := P
  subst hp
  exact k.via fun t q => XS.imul X.here hx rfl hd rfl q
theorem iand (P : Pos Z y bytes maxL ret n0 p l e R s m args below meth c T h cells slots) {x z : Int32} (hd : decode bytes pc = .ok (.iand, 1)) (hp : pc + 1 = pc') (k : Goes p e below s n0 kc ks Q (T.setTop (mkF m pc' L (.int (x &&& z) :: S)))) : Goes p e below s n0 kc ks Q (T.setTop (mkF m pc L (.int z :: .int x :: S))) := by
  obtain ⟨⟨hx, rfl, rfl, hown, hnm, rfl, hlk, hZ, hn0⟩, locs, X, rfl, N⟩ := P
  subst hp
  exact k.via fun t q => XS.iand X.here hx rfl hd rfl q
theorem ior (P : Pos Z y bytes maxL ret n0 p l e R s m args below meth c T h cells slots) {x z : Int32} (hd : decode bytes pc = .ok (.ior, 1)) (hp : pc + 1 = pc') (k : Goes p e below s n0 kc ks Q (T.setTop (mkF m pc' L (.int (x ||| z) :: S)))) : Goes p e below s n0 kc ks Q (T.setTop (mkF m pc L (.int z :: .int x :: S))) := by
  obtain ⟨⟨hx, rfl, rfl, hown, hnm, rfl, hlk, hZ, hn0⟩, locs, X, rfl, N⟩ := P
  subst hp
  exact k.via fun t q => XS.ior X.here hx rfl hd rfl q
theorem ixor (P : Pos Z y bytes maxL ret n0 p l e R s m args below meth c T h cells slots) {x z : Int32} (hd : decode bytes pc = .ok (.ixor, 1)) (hp : pc + 1 = pc') (k : Goes p e below s n0 kc ks Q (T.setTop (mkF m pc' L (.int (x ^^^ z) :: S)))) : Goes p e below s n0 kc ks Q (T.setTop (mkF m pc L (.int z :: .int x :: S))) := by
  obtain ⟨⟨hx, rfl, rfl, hown, hnm, rfl, hlk, hZ, hn0⟩, locs, X, rfl, N⟩ := P
  subst hp
  exact k.via fun t q => XS.ixor X.here hx rfl hd rfl q
theorem ishl (P : Pos Z y bytes maxL ret n0 p l e R s m args below meth c T h cells slots) {x z : Int32} (hd : decode bytes pc = .ok (.ishl, 1)) (hp : pc + 1 = pc') (k : Goes p e below s n0 kc ks Q (T.setTop (mkF m pc' L (.int (x <<< (z &&& 31)) :: S)))) : Goes p e below s n0 kc ks Q (T.setTop (mkF m pc L (.int z :: .int x :: S))) := by
  obtain ⟨⟨hx, rfl, rfl, hown, hnm, rfl, hlk, hZ, hn0⟩, locs, X, rfl, N⟩ := P
  subst hp
  exact k.via fun t q => XS.ishl X.here hx rfl hd rfl q
theorem ishr (P : Pos Z y bytes maxL ret n0 p l e R s m args below meth c T h cells slots) {x z : Int32} (hd : decode bytes pc = .ok (.ishr, 1)) (hp : pc + 1 = pc') (k : Goes p e below s n0 kc ks Q (T.setTop (mkF m pc' L (.int (x >>> (z &&& 31)) :: S)))) : Goes p e below s n0 kc ks Q (T.setTop (mkF m pc L (.int z :: .int x :: S))) := by
  obtain ⟨⟨hx, rfl, rfl, hown, hnm, rfl, hlk, hZ, hn0⟩, locs, X, rfl, N⟩ := P
  subst hp
  exact k.via fun t q => XS.ishr X.here hx rfl hd rfl q
theorem iushr (P : Pos Z y bytes maxL ret n0 p l e R s m args below meth c T h cells slots) {x z : Int32} (hd : decode bytes pc = .ok (.iushr, 1)) (hp : pc + 1 = pc') (k : Goes p e below s n0 kc ks Q (T.setTop (mkF m pc' L (.int ((x.toUInt32 >>> (z &&& 31).toUInt32).toInt32) :: S)))) : Goes p e below s n0 kc ks Q (T.setTop (mkF m pc L (.int z :: .int x :: S))) := by
  obtain ⟨⟨hx, rfl, rfl, hown, hnm, rfl, hlk, hZ, hn0⟩, locs, X, rfl, N⟩ := P
  subst hp
  exact k.via fun t q => XS.iushr X.here hx rfl hd rfl q
theorem ladd (P : Pos Z y bytes maxL ret n0 p l e R s m args below meth c T h cells slots) {x z : Int64} (hd : decode bytes pc = .ok (.ladd, 1)) (hp : pc + 1 = pc') (k : Goes p e below s n0 kc ks Q (T.setTop (mkF m pc' L (.long (x + z) :: S)))) : Goes p e below s n0 kc ks Q (T.setTop (mkF m pc L (.long z :: .long x :: S))) := by
  obtain ⟨⟨hx, rfl, rfl, hown, hnm, rfl, hlk, hZ, hn0⟩, locs, X, rfl, N⟩ := P
  subst hp
  exact k.via fun t q => XS.ladd X.here hx rfl hd rfl q
theorem lsub (P : Pos Z y bytes maxL ret n0 p l e R s m args below meth c T h cells slots) {x z : Int64} (hd : decode bytes pc = .ok (.lsub, 1)) (hp : pc + 1 = pc') (k : Goes p e below s n0 kc ks Q (T.setTop (mkF m pc' L (.long (x - z) :: S)))) : Goes p e below s n0 kc ks Q (T.setTop (mkF m pc L (.long z :: .long x :: S))) := by
  obtain ⟨⟨hx, rfl, rfl, hown, hnm, rfl, hlk, hZ, hn0⟩, locs, X, rfl, N⟩ := P
  subst hp
  exact k.via fun t q => XS.lsub X.here hx rfl hd rfl q
theorem lmul (P : Pos Z y bytes maxL ret n0 p l e R s m args below meth c T h cells slots) {x z : Int64} (hd : decode bytes pc = .ok (.lmul, 1)) (hp : pc + 1 = pc') (k : Goes p e below s n0 kc ks Q (T.setTop (mkF m pc' L (.long (x * z) :: S)))) : Goes p e below s n0 kc ks Q (T.setTop (mkF m pc L (.long z :: .long x :: S))) := by
  obtain ⟨⟨hx, rfl, rfl, hown, hnm, rfl, hlk, hZ, hn0⟩, locs, X, rfl, N⟩ := P
  subst hp
  exact k.via fun t q => XS.lmul X.here hx rfl hd rfl q
theorem land (P : Pos Z y bytes maxL ret n0 p l e R s m args below meth c T h cells slots) {x z : Int64} (hd : decode bytes pc = .ok (.land, 1)) (hp : pc + 1 = pc') (k : Goes p e below s n0 kc ks Q (T.setTop (mkF m pc' L (.long (x &&& z) :: S)))) : Goes p e below s n0 kc ks Q (T.setTop (mkF m pc L (.long z :: .long x :: S))) := by
  obtain ⟨⟨hx, rfl, rfl, hown, hnm, rfl, hlk, hZ, hn0⟩, locs, X, rfl, N⟩ := P
  subst hp
  exact k.via fun t q => XS.land X.here hx rfl hd rfl q
theorem lor (P : Pos Z y bytes maxL ret n0 p l e R s m args below meth c T h cells slots) {x z : Int64} (hd : decode bytes pc = .ok (.lor, 1)) (hp : pc + 1 = pc') (k : Goes p e below s n0 kc ks Q (T.setTop (mkF m pc' L (.long (x ||| z) :: S)))) : Goes p e below s n0 kc ks Q (T.setTop (mkF m pc L (.long z :: .long x :: S))) := by
  obtain ⟨⟨hx, rfl, rfl, hown, hnm, rfl, hlk, hZ, hn0⟩, locs, X, rfl, N⟩ := P
  subst hp
  exact k.via fun t q => XS.lor X.here hx rfl hd rfl q
theorem lxor (P : Pos Z y bytes maxL ret n0 p l e R s m args below meth c T h cells slots) {x z : Int64} (hd : decode bytes pc = .ok (.lxor, 1)) (hp : pc + 1 = pc') (k : Goes p e below s n0 kc ks Q (T.setTop (mkF m pc' L (.long (x ^^^ z) :: S)))) : Goes p e below s n0 kc ks Q (T.setTop (mkF m pc L (.long z :: .long x :: S))) := by
  obtain ⟨⟨hx, rfl, rfl, hown, hnm, rfl, hlk, hZ, hn0⟩, locs, X, rfl, N⟩ := P
  subst hp
  exact k.via fun t q => XS.lxor X.here hx rfl hd rfl q
theorem lshl (P : Pos Z y bytes maxL ret n0 p l e R s m args below meth c T h cells slots) {x : Int64} {z : Int32} (hd : decode bytes pc = .ok (.lshl, 1)) (hp : pc + 1 = pc') (k : Goes p e below s n0 kc ks Q (T.setTop (mkF m pc' L (.long (x <<< (z &&& 0x3f).toInt64) :: S)))) : Goes p e below s n0 kc ks Q (T.setTop (mkF m pc L (.int z :: .long x :: S))) := by
  obtain ⟨⟨hx, rfl, rfl, hown, hnm, rfl, hlk, hZ, hn0⟩, locs, X, rfl, N⟩ := P
  subst hp
  exact k.via fun t q => XS.lshl X.here hx rfl hd rfl q
theorem lshr (P : Pos Z y bytes maxL ret n0 p l e R s m args below meth c T h cells slots) {x : Int64} {z : Int32} (hd : decode bytes pc = .ok (.lshr, 1)) (hp : pc + 1 = pc') (k : Goes p e below s n0 kc ks Q (T.setTop (mkF m pc' L (.long (x >>> (z &&& 0x3f).toInt64) :: S)))) : Goes p e below s n0 kc ks Q (T.setTop (mkF m pc L (.int z :: .long x :: S))) := by
  obtain ⟨⟨hx, rfl, rfl, hown, hnm, rfl, hlk, hZ, hn0⟩, locs, X, rfl, N⟩ := P
  subst hp
  exact k.via fun t q => XS.lshr X.here hx rfl hd rfl q
theorem lushr (P : Pos Z y bytes maxL ret n0 p l e R s m args below meth c T h cells slots) {x : Int64} {z : Int32} (hd : decode bytes pc = .ok (.lushr, 1)) (hp : pc + 1 = pc') (k : Goes p e below s n0 kc ks Q (T.setTop (mkF m pc' L (.long ((x.toUInt64 >>> (z &&& 0x3f).toInt64.toUInt64).toInt64) :: S)))) : Goes p e below s n0 kc ks Q (T.setTop (mkF m pc L (.int z :: .long x :: S))) := by
  obtain ⟨⟨hx, rfl, rfl, hown, hnm, rfl, hlk, hZ, hn0⟩, locs, X, rfl, N⟩ := P
  subst hp
  exact k.via fun t q => XS.lushr X.here hx rfl hd rfl q
theorem idiv (P : Pos Z y bytes maxL ret n0 p l e R s m args below meth c T h cells slots) {x z : Int32} (hd : decode bytes pc = .ok (.idiv, 1)) (hz : z ≠ 0) (hp : pc + 1 = pc') (k : Goes p e below s n0 kc ks Q (T.setTop (mkF m pc' L (.int (x / z) :: S)))) : Goes p e below s n0 kc ks Q (T.setTop (mkF m pc L (.int z :: .int x :: S))) := by
  obtain ⟨⟨hx, rfl, rfl, hown, hnm, rfl, hlk, hZ, hn0⟩, locs, X, rfl, N⟩ := P
  subst hp
  exact k.via fun t q => XS.idiv X.here hx rfl hd rfl hz q
theorem irem (P : Pos Z y bytes maxL ret n0 p l e R s m args below meth c T h cells slots) {x z : Int32} (hd : decode bytes pc = .ok (.irem, 1)) (hz : z ≠ 0) (hp : pc + 1 = pc') (k : Goes p e below s n0 kc ks Q (T.setTop (mkF m pc' L (.int (x % z) :: S)))) : Goes p e below s n0 kc ks Q (T.setTop (mkF m pc L (.int z :: .int x :: S))) := by
  obtain ⟨⟨hx, rfl, rfl, hown, hnm, rfl, hlk, hZ, hn0⟩, locs, X, rfl, N⟩ := P
  subst hp
  exact k.via fun t q => iremM X hx rfl hd rfl hz q
theorem ldiv (P : Pos Z y bytes maxL ret n0 p l e R s m args below meth c T h cells slots) {x z : Int64} (hd : decode bytes pc = .ok (.ldiv, 1)) (hz : z ≠ 0) (hp : pc + 1 = pc') (k : Goes p e below s n0 kc ks Q (T.setTop (mkF m pc' L (.long (x / z) :: S)))) : Goes p e below s n0 kc ks Q (T.setTop (mkF m pc L (.long z :: .long x :: S))) := by
  obtain ⟨⟨hx, rfl, rfl, hown, hnm, rfl, hlk, hZ, hn0⟩, locs, X, rfl, N⟩ := P
  subst hp
  exact k.via fun t q => XS.ldiv X.here hx rfl hd rfl hz q
theorem lrem (P : Pos Z y bytes maxL ret n0 p l e R s m args below meth c T h cells slots) {x z : Int64} (hd : decode bytes pc = .ok (.lrem, 1)) (hz : z ≠ 0) (hp : pc + 1 = pc') (k : Goes p e below s n0 kc ks Q (T.setTop (mkF m pc' L (.long (x % z) :: S)))) : Goes p e below s n0 kc ks Q (T.setTop (mkF m pc L (.long z :: .long x :: S))) := by
  obtain ⟨⟨hx, rfl, rfl, hown, hnm, rfl, hlk, hZ, hn0⟩, locs, X, rfl, N⟩ := P
  subst hp
  exact k.via fun t q => XS.lrem X.here hx rfl hd rfl hz (by rw [lrem_mod]; exact q)
theorem ineg (P : Pos Z y bytes maxL ret n0 p l e R s m args below meth c T h cells slots) {x : Int32} (hd : decode bytes pc = .ok (.ineg, 1)) (hp : pc + 1 = pc') (k : Goes p e below s n0 kc ks Q (T.setTop (mkF m pc' L (.int (-x) :: S)))) : Goes p e below s n0 kc ks Q (T.setTop (mkF m pc L (.int x :: S))) := by
  obtain ⟨⟨hx, rfl, rfl, hown, hnm, rfl, hlk, hZ, hn0⟩, locs, X, rfl, N⟩ := P
  subst hp
  exact k.via fun t q => XS.ineg X.here hx rfl hd rfl q
theorem lneg (P : Pos Z y bytes maxL ret n0 p l e R s m args below meth c T h cells slots) {x : Int64} (hd : decode bytes pc = .ok (.lneg, 1)) (hp : pc + 1 = pc') (k : Goes p e below s n0 kc ks Q (T.setTop (mkF m pc' L (.long (-x) :: S)))) : Goes p e below s n0 kc ks Q (T.setTop (mkF m pc L (.long x :: S))) := by
  obtain ⟨⟨hx, rfl, rfl, hown, hnm, rfl, hlk, hZ, hn0⟩, locs, X, rfl, N⟩ := P
  subst hp
  exact k.via fun t q => XS.lneg X.here hx rfl hd rfl q
theorem i2l (P : Pos Z y bytes maxL ret n0 p l e R s m args below meth c T h cells slots) {x : Int32} (hd : decode bytes pc = .ok (.i2l, 1)) (hp : pc + 1 = pc') (k : Goes p e below s n0 kc ks Q (T.setTop (mkF m pc' L (.long (x.toInt64) :: S)))) : Goes p e below s n0 kc ks Q (T.setTop (mkF m pc L (.int x :: S))) := by
  obtain ⟨⟨hx, rfl, rfl, hown, hnm, rfl, hlk, hZ, hn0⟩, locs, X, rfl, N⟩ := P
  subst hp
  exact k.via fun t q => XS.i2l X.here hx rfl hd rfl q
theorem l2i (P : Pos Z y bytes maxL ret n0 p l e R s m args below meth c T h cells slots) {x : Int64} (hd : decode bytes pc = .ok (.l2i, 1)) (hp : pc + 1 = pc') (k : Goes p e below s n0 kc ks Q (T.setTop (mkF m pc' L (.int (x.toInt32) :: S)))) : Goes p e below s n0 kc ks Q (T.setTop (mkF m pc L (.long x :: S))) := by
  obtain ⟨⟨hx, rfl, rfl, hown, hnm, rfl, hlk, hZ, hn0⟩, locs, X, rfl, N⟩ := P
  subst hp
  exact k.via fun t q => XS.l2i X.here hx rfl hd rfl q
theorem i2b (P : Pos Z y bytes maxL ret n0 p l e R s m args below meth c T h cells slots) {x : Int32} (hd : decode bytes pc = .ok (.i2b, 1)) (hp : pc + 1 = pc') (k : Goes p e below s n0 kc ks Q (T.setTop (mkF m pc' L (.int (x.toInt8.toInt32) :: S)))) : Goes p e below s n0 kc ks Q (T.setTop (mkF m pc L (.int x :: S))) := by
  obtain ⟨⟨hx, rfl, rfl, hown, hnm, rfl, hlk, hZ, hn0⟩, locs, X, rfl, N⟩ := P
  subst hp
  exact k.via fun t q => XS.i2b X.here hx rfl hd rfl q
theorem i2s (P : Pos Z y bytes maxL ret n0 p l e R s m args below meth c T h cells slots) {x : Int32} (hd : decode bytes pc = .ok (.i2s, 1)) (hp : pc + 1 = pc') (k : Goes p e below s n0 kc ks Q (T.setTop (mkF m pc' L (.int (x.toInt16.toInt32) :: S)))) : Goes p e below s n0 kc ks Q (T.setTop (mkF m pc L (.int x :: S))) := by
  obtain ⟨⟨hx, rfl, rfl, hown, hnm, rfl, hlk, hZ, hn0⟩, locs, X, rfl, N⟩ := P
  subst hp
  exact k.via fun t q => XS.i2s X.here hx rfl hd rfl q
theorem i2c (P : Pos Z y bytes maxL ret n0 p l e R s m args below meth c T h cells slots) {x : Int32} (hd : decode bytes pc = .ok (.i2c, 1)) (hp : pc + 1 = pc') (k : Goes p e below s n0 kc ks Q (T.setTop (mkF m pc' L (.int (x.toUInt32.toUInt16.toUInt32.toInt32) :: S)))) : Goes p e below s n0 kc ks Q (T.setTop (mkF m pc L (.int x :: S))) := by
  obtain ⟨⟨hx, rfl, rfl, hown, hnm, rfl, hlk, hZ, hn0⟩, locs, X, rfl, N⟩ := P
  subst hp
  exact k.via fun t q => XS.i2c X.here hx rfl hd rfl q
theorem lcmp (P : Pos Z y bytes maxL ret n0 p l e R s m args below meth c T h cells slots) {x z : Int64} (hd : decode bytes pc = .ok (.lcmp, 1)) (hp : pc + 1 = pc') (k : Goes p e below s n0 kc ks Q (T.setTop (mkF m pc' L (.int (lcmpW x z) :: S)))) : Goes p e below s n0 kc ks Q (T.setTop (mkF m pc L (.long z :: .long x :: S))) := by
  obtain ⟨⟨hx, rfl, rfl, hown, hnm, rfl, hlk, hZ, hn0⟩, locs, X, rfl, N⟩ := P
  subst hp
  exact k.via fun t q => XS.lcmp X.here hx rfl hd rfl q
theorem iinc (P : Pos Z y bytes maxL ret n0 p l e R s m args below meth c T h cells slots) {k : Nat} {i : Int} {x v' : Int32} (hd : decode bytes pc = .ok (.iinc k i, 3)) (hl : L[k]? = some (.val (.int x))) (hv : x + Int32.ofInt i = v') (hl' : storeLocals L k (.int v') = some L') (hp : pc + 3 = pc') (k : Goes p e below s n0 kc ks Q (T.setTop (mkF m pc' L' S))) : Goes p e below s n0 kc ks Q (T.setTop (mkF m pc L S)) := by
  obtain ⟨⟨hx, rfl, rfl, hown, hnm, rfl, hlk, hZ, hn0⟩, locs, X, rfl, N⟩ := P
  subst hp hv
  exact k.via fun t q => XS.iinc X.here hx rfl hd hl hl' q
theorem dup (P : Pos Z y bytes maxL ret n0 p l e R s m args below meth c T h cells slots) {v : Value} (hd : decode bytes pc = .ok (.dup, 1)) (hc : v.category = 1) (hp : pc + 1 = pc') (k : Goes p e below s n0 kc ks Q (T.setTop (mkF m pc' L (v :: v :: S)))) : Goes p e below s n0 kc ks Q (T.setTop (mkF m pc L (v :: S))) := by
  obtain ⟨⟨hx, rfl, rfl, hown, hnm, rfl, hlk, hZ, hn0⟩, locs, X, rfl, N⟩ := P
  subst hp
  exact k.via fun t q => XS.dup X.here hx rfl hd rfl hc q
theorem pop (P : Pos Z y bytes maxL ret n0 p l e R s m args below meth c T h cells slots) {v : Value} (hd : decode bytes pc = .ok (.pop, 1)) (hc : v.category = 1) (hp : pc + 1 = pc') (k : Goes p e below s n0 kc ks Q (T.setTop (mkF m pc' L S))) : Goes p e below s n0 kc ks Q (T.setTop (mkF m pc L (v :: S))) := by
  obtain ⟨⟨hx, rfl, rfl, hown, hnm, rfl, hlk, hZ, hn0⟩, locs, X, rfl, N⟩ := P
  subst hp
  exact k.via fun t q => XS.pop X.here hx rfl hd rfl hc q
theorem dupX1 (P : Pos Z y bytes maxL ret n0 p l e R s m args below meth c T h cells slots) {v u : Value} (hd : decode bytes pc = .ok (.dup_x1, 1)) (hc : v.category = 1) (hc' : u.category = 1) (hp : pc + 1 = pc') (k : Goes p e below s n0 kc ks Q (T.setTop (mkF m pc' L (v :: u :: v :: S)))) : Goes p e below s n0 kc ks Q (T.setTop (mkF m pc L (v :: u :: S))) := by
  obtain ⟨⟨hx, rfl, rfl, hown, hnm, rfl, hlk, hZ, hn0⟩, locs, X, rfl, N⟩ := P
  subst hp
  exact k.via fun t q => XS.dupX1 X.here hx rfl hd rfl hc hc' q
theorem dup2 (P : Pos Z y bytes maxL ret n0 p l e R s m args below meth c T h cells slots) {v u : Value} (hd : decode bytes pc = .ok (.dup2, 1)) (hc : v.category = 1) (hc' : u.category = 1) (hp : pc + 1 = pc') (k : Goes p e below s n0 kc ks Q (T.setTop (mkF m pc' L (v :: u :: v :: u :: S)))) : Goes p e below s n0 kc ks Q (T.setTop (mkF m pc L (v :: u :: S))) := by
  obtain ⟨⟨hx, rfl, rfl, hown, hnm, rfl, hlk, hZ, hn0⟩, locs, X, rfl, N⟩ := P
  subst hp
  exact k.via fun t q => XT.dup2 X.here hx rfl hd rfl hc hc' q
theorem pop2L (P : Pos Z y bytes maxL ret n0 p l e R s m args below meth c T h cells slots) {v : Int64} (hd : decode bytes pc = .ok (.pop2, 1)) (hp : pc + 1 = pc') (k : Goes p e below s n0 kc ks Q (T.setTop (mkF m pc' L S))) : Goes p e below s n0 kc ks Q (T.setTop (mkF m pc L (.long v :: S))) := by
  obtain ⟨⟨hx, rfl, rfl, hown, hnm, rfl, hlk, hZ, hn0⟩, locs, X, rfl, N⟩ := P
  subst hp
  refine k.via fun t q => ?_
  jvm_step X.here [X.here.top, hx, hd, Value.category]
  exact q
theorem goto (P : Pos Z y bytes maxL ret n0 p l e R s m args below meth c T h cells slots) {o : Int} (hd : decode bytes pc = .ok (.goto o, 3)) (ho : 0 ≤ (pc : Int) + o) (hp : ((pc : Int) + o).toNat = pc') (k : Goes p e below s n0 kc ks Q (T.setTop (mkF m pc' L S))) : Goes p e below s n0 kc ks Q (T.setTop (mkF m pc L S)) := by
  obtain ⟨⟨hx, rfl, rfl, hown, hnm, rfl, hlk, hZ, hn0⟩, locs, X, rfl, N⟩ := P
  exact k.via fun t q => XS.goto X.here hx rfl (pc0 := pc) (pc' := pc') rfl hd ho hp q
theorem icmp_lt (P : Pos Z y bytes maxL ret n0 p l e R s m args below meth c T h cells slots) {x z : Int32} {o : Int} (hd : decode bytes pc = .ok (.if_icmp .lt o, 3)) (ho : 0 ≤ (pc : Int) + o) (hY : ((pc : Int) + o).toNat = pcY) (hN : pc + 3 = pcN) (kY : x < z → Goes p e below s n0 kc ks Q (T.setTop (mkF m pcY L S))) (kN : ¬ x < z → Goes p e below s n0 kc ks Q (T.setTop (mkF m pcN L S))) : Goes p e below s n0 kc ks Q (T.setTop (mkF m pc L (.int z :: .int x :: S))) := by
  obtain ⟨⟨hx, rfl, rfl, hown, hnm, rfl, hlk, hZ, hn0⟩, locs, X, rfl, N⟩ := P
  by_cases q : x < z
  · exact (kY q).via fun t r => XS.icmpYes X.here hx rfl (pc0 := pc) (pc' := pcY) rfl hd rfl (tlt q).1 ho hY r
  · subst hN
    exact (kN q).via fun t r => XS.icmpNo X.here hx rfl hd rfl (flt q).1 r
theorem if_lt (P : Pos Z y bytes maxL ret n0 p l e R s m args below meth c T h cells slots) {x : Int32} {o : Int} (hd : decode bytes pc = .ok (.ifCond .lt o, 3)) (ho : 0 ≤ (pc : Int) + o) (hY : ((pc : Int) + o).toNat = pcY) (hN : pc + 3 = pcN) (kY : x < 0 → Goes p e below s n0 kc ks Q (T.setTop (mkF m pcY L S))) (kN : ¬ x < 0 → Goes p e below s n0 kc ks Q (T.setTop (mkF m pcN L S))) : Goes p e below s n0 kc ks Q (T.setTop (mkF m pc L (.int x :: S))) := by
  obtain ⟨⟨hx, rfl, rfl, hown, hnm, rfl, hlk, hZ, hn0⟩, locs, X, rfl, N⟩ := P
  by_cases q : x < 0
  · exact (kY q).via fun t r => XS.ifYes X.here hx rfl (pc0 := pc) (pc' := pcY) rfl hd rfl ((if0 _ _).trans (tlt q).1) ho hY r
  · subst hN
    exact (kN q).via fun t r => XS.ifNo X.here hx rfl hd rfl ((if0 _ _).trans (flt q).1) r
theorem icmp_ge (P : Pos Z y bytes maxL ret n0 p l e R s m args below meth c T h cells slots) {x z : Int32} {o : Int} (hd : decode bytes pc = .ok (.if_icmp .ge o, 3)) (ho : 0 ≤ (pc : Int) + o) (hY : ((pc : Int) + o).toNat = pcY) (hN : pc + 3 = pcN) (kY : ¬ x < z → Goes p e below s n0 kc ks Q (T.setTop (mkF m pcY L S))) (kN : x < z → Goes p e below s n0 kc ks Q (T.setTop (mkF m pcN L S))) : Goes p e below s n0 kc ks Q (T.setTop (mkF m pc L (.int z :: .int x :: S))) := by
  obtain ⟨⟨hx, rfl, rfl, hown, hnm, rfl, hlk, hZ, hn0⟩, locs, X, rfl, N⟩ := P
  by_cases q : x < z
  · subst hN
    exact (kN q).via fun t r => XS.icmpNo X.here hx rfl hd rfl (tlt q).2.1 r
  · exact (kY q).via fun t r => XS.icmpYes X.here hx rfl (pc0 := pc) (pc' := pcY) rfl hd rfl (flt q).2.1 ho hY r
theorem if_ge (P : Pos Z y bytes maxL ret n0 p l e R s m args below meth c T h cells slots) {x : Int32} {o : Int} (hd : decode bytes pc = .ok (.ifCond .ge o, 3)) (ho : 0 ≤ (pc : Int) + o) (hY : ((pc : Int) + o).toNat = pcY) (hN : pc + 3 = pcN) (kY : ¬ x < 0 → Goes p e below s n0 kc ks Q (T.setTop (mkF m pcY L S))) (kN : x < 0 → Goes p e below s n0 kc ks Q (T.setTop (mkF m pcN L S))) : Goes p e below s n0 kc ks Q (T.setTop (mkF m pc L (.int x :: S))) := by
  obtain ⟨⟨hx, rfl, rfl, hown, hnm, rfl, hlk, hZ, hn0⟩, locs, X, rfl, N⟩ := P
  by_cases q : x < 0
  · subst hN
    exact (kN q).via fun t r => XS.ifNo X.here hx rfl hd rfl ((if0 _ _).trans (tlt q).2.1) r
  · exact (kY q).via fun t r => XS.ifYes X.here hx rfl (pc0 := pc) (pc' := pcY) rfl hd rfl ((if0 _ _).trans (flt q).2.1) ho hY r
theorem icmp_gt (P : Pos Z y bytes maxL ret n0 p l e R s m args below meth c T h cells slots) {x z : Int32} {o : Int} (hd : decode bytes pc = .ok (.if_icmp .gt o, 3)) (ho : 0 ≤ (pc : Int) + o) (hY : ((pc : Int) + o).toNat = pcY) (hN : pc + 3 = pcN) (kY : z < x → Goes p e below s n0 kc ks Q (T.setTop (mkF m pcY L S))) (kN : ¬ z < x → Goes p e below s n0 kc ks Q (T.setTop (mkF m pcN L S))) : Goes p e below s n0 kc ks Q (T.setTop (mkF m pc L (.int z :: .int x :: S))) := by
  obtain ⟨⟨hx, rfl, rfl, hown, hnm, rfl, hlk, hZ, hn0⟩, locs, X, rfl, N⟩ := P
  by_cases q : z < x
  · exact (kY q).via fun t r => XS.icmpYes X.here hx rfl (pc0 := pc) (pc' := pcY) rfl hd rfl (tlt q).2.2.1 ho hY r
  · subst hN
    exact (kN q).via fun t r => XS.icmpNo X.here hx rfl hd rfl (flt q).2.2.1 r
theorem if_gt (P : Pos Z y bytes maxL ret n0 p l e R s m args below meth c T h cells slots) {x : Int32} {o : Int} (hd : decode bytes pc = .ok (.ifCond .gt o, 3)) (ho : 0 ≤ (pc : Int) + o) (hY : ((pc : Int) + o).toNat = pcY) (hN : pc + 3 = pcN) (kY : 0 < x → Goes p e below s n0 kc ks Q (T.setTop (mkF m pcY L S))) (kN : ¬ 0 < x → Goes p e below s n0 kc ks Q (T.setTop (mkF m pcN L S))) : Goes p e below s n0 kc ks Q (T.setTop (mkF m pc L (.int x :: S))) := by
  obtain ⟨⟨hx, rfl, rfl, hown, hnm, rfl, hlk, hZ, hn0⟩, locs, X, rfl, N⟩ := P
  by_cases q : 0 < x
  · exact (kY q).via fun t r => XS.ifYes X.here hx rfl (pc0 := pc) (pc' := pcY) rfl hd rfl ((if0 _ _).trans (tlt q).2.2.1) ho hY r
  · subst hN
    exact (kN q).via fun t r => XS.ifNo X.here hx rfl hd rfl ((if0 _ _).trans (flt q).2.2.1) r
theorem icmp_le (P : Pos Z y bytes maxL ret n0 p l e R s m args below meth c T h cells slots) {x z : Int32} {o : Int} (hd : decode bytes pc = .ok (.if_icmp .le o, 3)) (ho : 0 ≤ (pc : Int) + o) (hY : ((pc : Int) + o).toNat = pcY) (hN : pc + 3 = pcN) (kY : ¬ z < x → Goes p e below s n0 kc ks Q (T.setTop (mkF m pcY L S))) (kN : z < x → Goes p e below s n0 kc ks Q (T.setTop (mkF m pcN L S))) : Goes p e below s n0 kc ks Q (T.setTop (mkF m pc L (.int z :: .int x :: S))) := by
  obtain ⟨⟨hx, rfl, rfl, hown, hnm, rfl, hlk, hZ, hn0⟩, locs, X, rfl, N⟩ := P
  by_cases q : z < x
  · subst hN
    exact (kN q).via fun t r => XS.icmpNo X.here hx rfl hd rfl (tlt q).2.2.2 r
  · exact (kY q).via fun t r => XS.icmpYes X.here hx rfl (pc0 := pc) (pc' := pcY) rfl hd rfl (flt q).2.2.2 ho hY r
theorem if_le (P : Pos Z y bytes maxL ret n0 p l e R s m args below meth c T h cells slots) {x : Int32} {o : Int} (hd : decode bytes pc = .ok (.ifCond .le o, 3)) (ho : 0 ≤ (pc : Int) + o) (hY : ((pc : Int) + o).toNat = pcY) (hN : pc + 3 = pcN) (kY : ¬ 0 < x → Goes p e below s n0 kc ks Q (T.setTop (mkF m pcY L S))) (kN : 0 < x → Goes p e below s n0 kc ks Q (T.setTop (mkF m pcN L S))) : Goes p e below s n0 kc ks Q (T.setTop (mkF m pc L (.int x :: S))) := by
  obtain ⟨⟨hx, rfl, rfl, hown, hnm, rfl, hlk, hZ, hn0⟩, locs, X, rfl, N⟩ := P
  by_cases q : 0 < x
  · subst hN
    exact (kN q).via fun t r => XS.ifNo X.here hx rfl hd rfl ((if0 _ _).trans (tlt q).2.2.2) r
  · exact (kY q).via fun t r => XS.ifYes X.here hx rfl (pc0 := pc) (pc' := pcY) rfl hd rfl ((if0 _ _).trans (flt q).2.2.2) ho hY r
theorem icmp_eq (P : Pos Z y bytes maxL ret n0 p l e R s m args below meth c T h cells slots) {x z : Int32} {o : Int} (hd : decode bytes pc = .ok (.if_icmp .eq o, 3)) (ho : 0 ≤ (pc : Int) + o) (hY : ((pc : Int) + o).toNat = pcY) (hN : pc + 3 = pcN) (kY : x = z → Goes p e below s n0 kc ks Q (T.setTop (mkF m pcY L S))) (kN : ¬ x = z → Goes p e below s n0 kc ks Q (T.setTop (mkF m pcN L S))) : Goes p e below s n0 kc ks Q (T.setTop (mkF m pc L (.int z :: .int x :: S))) := by
  obtain ⟨⟨hx, rfl, rfl, hown, hnm, rfl, hlk, hZ, hn0⟩, locs, X, rfl, N⟩ := P
  by_cases q : x = z
  · exact (kY q).via fun t r => XS.icmpYes X.here hx rfl (pc0 := pc) (pc' := pcY) rfl hd rfl (teq q).1 ho hY r
  · subst hN
    exact (kN q).via fun t r => XS.icmpNo X.here hx rfl hd rfl (feq q).1 r
theorem if_eq (P : Pos Z y bytes maxL ret n0 p l e R s m args below meth c T h cells slots) {x : Int32} {o : Int} (hd : decode bytes pc = .ok (.ifCond .eq o, 3)) (ho : 0 ≤ (pc : Int) + o) (hY : ((pc : Int) + o).toNat = pcY) (hN : pc + 3 = pcN) (kY : x = 0 → Goes p e below s n0 kc ks Q (T.setTop (mkF m pcY L S))) (kN : ¬ x = 0 → Goes p e below s n0 kc ks Q (T.setTop (mkF m pcN L S))) : Goes p e below s n0 kc ks Q (T.setTop (mkF m pc L (.int x :: S))) := by
  obtain ⟨⟨hx, rfl, rfl, hown, hnm, rfl, hlk, hZ, hn0⟩, locs, X, rfl, N⟩ := P
  by_cases q : x = 0
  · exact (kY q).via fun t r => XS.ifYes X.here hx rfl (pc0 := pc) (pc' := pcY) rfl hd rfl ((if0 _ _).trans (teq q).1) ho hY r
  · subst hN
    exact (kN q).via fun t r => XS.ifNo X.here hx rfl hd rfl ((if0 _ _).trans (feq q).1) r
theorem icmp_ne (P : Pos Z y bytes maxL ret n0 p l e R s m args below meth c T h cells slots) {x z : Int32} {o : Int} (hd : decode bytes pc = .ok (.if_icmp .ne o, 3)) (ho : 0 ≤ (pc : Int) + o) (hY : ((pc : Int) + o).toNat = pcY) (hN : pc + 3 = pcN) (kY : ¬ x = z → Goes p e below s n0 kc ks Q (T.setTop (mkF m pcY L S))) (kN : x = z → Goes p e below s n0 kc ks Q (T.setTop (mkF m pcN L S))) : Goes p e below s n0 kc ks Q (T.setTop (mkF m pc L (.int z :: .int x :: S))) := by
  obtain ⟨⟨hx, rfl, rfl, hown, hnm, rfl, hlk, hZ, hn0⟩, locs, X, rfl, N⟩ := P
  by_cases q : x = z
  · subst hN
    exact (kN q).via fun t r => XS.icmpNo X.here hx rfl hd rfl (teq q).2 r
  · exact (kY q).via fun t r => XS.icmpYes X.here hx rfl (pc0 := pc) (pc' := pcY) rfl hd rfl (feq q).2 ho hY r
theorem if_ne (P : Pos Z y bytes maxL ret n0 p l e R s m args below meth c T h cells slots) {x : Int32} {o : Int} (hd : decode bytes pc = .ok (.ifCond .ne o, 3)) (ho : 0 ≤ (pc : Int) + o) (hY : ((pc : Int) + o).toNat = pcY) (hN : pc + 3 = pcN) (kY : ¬ x = 0 → Goes p e below s n0 kc ks Q (T.setTop (mkF m pcY L S))) (kN : x = 0 → Goes p e below s n0 kc ks Q (T.setTop (mkF m pcN L S))) : Goes p e below s n0 kc ks Q (T.setTop (mkF m pc L (.int x :: S))) := by
  obtain ⟨⟨hx, rfl, rfl, hown, hnm, rfl, hlk, hZ, hn0⟩, locs, X, rfl, N⟩ := P
  by_cases q : x = 0
  · subst hN
    exact (kN q).via fun t r => XS.ifNo X.here hx rfl hd rfl ((if0 _ _).trans (teq q).2) r
  · exact (kY q).via fun t r => XS.ifYes X.here hx rfl (pc0 := pc) (pc' := pcY) rfl hd rfl ((if0 _ _).trans (feq q).2) ho hY r
theorem lif_lt (P : Pos Z y bytes maxL ret n0 p l e R s m args below meth c T h cells slots) {x z : Int64} {o : Int} (hd : decode bytes pc = .ok (.ifCond .lt o, 3)) (ho : 0 ≤ (pc : Int) + o) (hY : ((pc : Int) + o).toNat = pcY) (hN : pc + 3 = pcN) (kY : x < z → Goes p e below s n0 kc ks Q (T.setTop (mkF m pcY L S))) (kN : ¬ x < z → Goes p e below s n0 kc ks Q (T.setTop (mkF m pcN L S))) : Goes p e below s n0 kc ks Q (T.setTop (mkF m pc L (.int (lcmpW x z) :: S))) :=
  if_lt P hd ho hY hN (fun q => kY ((lw_lt x z).mp q)) (fun q => kN (mt (lw_lt x z).mpr q))
theorem lif_ge (P : Pos Z y bytes maxL ret n0 p l e R s m args below meth c T h cells slots) {x z : Int64} {o : Int} (hd : decode bytes pc = .ok (.ifCond .ge o, 3)) (ho : 0 ≤ (pc : Int) + o) (hY : ((pc : Int) + o).toNat = pcY) (hN : pc + 3 = pcN) (kY : ¬ x < z → Goes p e below s n0 kc ks Q (T.setTop (mkF m pcY L S))) (kN : x < z → Goes p e below s n0 kc ks Q (T.setTop (mkF m pcN L S))) : Goes p e below s n0 kc ks Q (T.setTop (mkF m pc L (.int (lcmpW x z) :: S))) :=
  if_ge P hd ho hY hN (fun q => kY (mt (lw_lt x z).mpr q)) (fun q => kN ((lw_lt x z).mp q))
theorem lif_gt (P : Pos Z y bytes maxL ret n0 p l e R s m args below meth c T h cells slots) {x z : Int64} {o : Int} (hd : decode bytes pc = .ok (.ifCond .gt o, 3)) (ho : 0 ≤ (pc : Int) + o) (hY : ((pc : Int) + o).toNat = pcY) (hN : pc + 3 = pcN) (kY : z < x → Goes p e below s n0 kc ks Q (T.setTop (mkF m pcY L S))) (kN : ¬ z < x → Goes p e below s n0 kc ks Q (T.setTop (mkF m pcN L S))) : Goes p e below s n0 kc ks Q (T.setTop (mkF m pc L (.int (lcmpW x z) :: S))) :=
  if_gt P hd ho hY hN (fun q => kY ((lw_gt x z).mp q)) (fun q => kN (mt (lw_gt x z).mpr q))
theorem lif_le (P : Pos Z y bytes maxL ret n0 p l e R s m args below meth c T h cells slots) {x z : Int64} {o : Int} (hd : decode bytes pc = .ok (.ifCond .le o, 3)) (ho : 0 ≤ (pc : Int) + o) (hY : ((pc : Int) + o).toNat = pcY) (hN : pc + 3 = pcN) (kY : ¬ z < x → Goes p e below s n0 kc ks Q (T.setTop (mkF m pcY L S))) (kN : z < x → Goes p e below s n0 kc ks Q (T.setTop (mkF m pcN L S))) : Goes p e below s n0 kc ks Q (T.setTop (mkF m pc L (.int (lcmpW x z) :: S))) :=
  if_le P hd ho hY hN (fun q => kY (mt (lw_gt x z).mpr q)) (fun q => kN ((lw_gt x z).mp q))
theorem lif_eq (P : Pos Z y bytes maxL ret n0 p l e R s m args below meth c T h cells slots) {x z : Int64} {o : Int} (hd : decode bytes pc = .ok (.ifCond .eq o, 3)) (ho : 0 ≤ (pc : Int) + o) (hY : ((pc : Int) + o).toNat = pcY) (hN : pc + 3 = pcN) (kY : x = z → Goes p e below s n0 kc ks Q (T.setTop (mkF m pcY L S))) (kN : ¬ x = z → Goes p e below s n0 kc ks Q (T.setTop (mkF m pcN L S))) : Goes p e below s n0 kc ks Q (T.setTop (mkF m pc L (.int (lcmpW x z) :: S))) :=
  if_eq P hd ho hY hN (fun q => kY ((lw_eq x z).mp q)) (fun q => kN (mt (lw_eq x z).mpr q))
theorem lif_ne (P : Pos Z y bytes maxL ret n0 p l e R s m args below meth c T h cells slots) {x z : Int64} {o : Int} (hd : decode bytes pc = .ok (.ifCond .ne o, 3)) (ho : 0 ≤ (pc : Int) + o) (hY : ((pc : Int) + o).toNat = pcY) (hN : pc + 3 = pcN) (kY : ¬ x = z → Goes p e below s n0 kc ks Q (T.setTop (mkF m pcY L S))) (kN : x = z → Goes p e below s n0 kc ks Q (T.setTop (mkF m pcN L S))) : Goes p e below s n0 kc ks Q (T.setTop (mkF m pc L (.int (lcmpW x z) :: S))) :=
  if_ne P hd ho hY hN (fun q => kY (mt (lw_eq x z).mpr q)) (fun q => kN ((lw_eq x z).mp q))
theorem ldcI (P : Pos Z y bytes maxL ret n0 p l e R s m args below meth c T h cells slots) {i : Nat} {v : Int32} (w : (Jvm.Cond.constant y.cls i v).before a0 Z = true) (hd : decode bytes pc = .ok (.ldc i, 2)) (hp : pc + 2 = pc') (k : Goes p e below s n0 kc ks Q (T.setTop (mkF m pc' L (.int v :: S)))) : Goes p e below s n0 kc ks Q (T.setTop (mkF m pc L S)) := by
  obtain ⟨⟨hx, rfl, rfl, hown, hnm, rfl, hlk, hZ, hn0⟩, locs, X, rfl, N⟩ := P
  subst hp
  exact k.via fun t q => X.ldcInt hx hown (mvT hZ w) (g := mkF m pc L S) rfl hd _ q
theorem ldc2 (P : Pos Z y bytes maxL ret n0 p l e R s m args below meth c T h cells slots) {i : Nat} {v : Int64} (w : (Jvm.Cond.constantLong y.cls i v).before a0 Z = true) (hd : decode bytes pc = .ok (.ldc2_w i, 3)) (hp : pc + 3 = pc') (k : Goes p e below s n0 kc ks Q (T.setTop (mkF m pc' L (.long v :: S)))) : Goes p e below s n0 kc ks Q (T.setTop (mkF m pc L S)) := by
  obtain ⟨⟨hx, rfl, rfl, hown, hnm, rfl, hlk, hZ, hn0⟩, locs, X, rfl, N⟩ := P
  subst hp
  exact k.via fun t q => X.ldc2Long hx hown (mvT hZ w) (g := mkF m pc L S) rfl hd _ q
theorem ireturn (P : Pos Z y bytes maxL ret n0 p l e R s m args below meth c T h cells slots) {z : Int32} (hr' : ret = some .int) (hd : decode bytes pc = .ok (.ireturn, 1)) (hk1 : cells ≤ kc) (hk2 : slots ≤ ks) (hQ : Q (some (.int z)) h) : Goes p e below s n0 kc ks Q (T.setTop (mkF m pc L (.int z :: S))) := by
  obtain ⟨⟨hx, rfl, rfl, hown, hnm, rfl, hlk, hZ, hn0⟩, locs, X, rfl, N⟩ := P
  obtain ⟨fs, hr, hrun, hended, hW, hsame⟩ := X.leave (v := some (.int z)) (fun h => by rw [hr'] at h; cases h) (hlocks := hlk)
  exact ⟨_, _, retOut X hx hr' rfl (Or.inl ⟨rfl, Or.inl rfl, _, rfl⟩) hd hr, hrun, hended, _, _, rfl, ⟨hQ, N⟩, ⟨_, rfl⟩, hW, hsame.mono hk1 hk2⟩
theorem ireturnN (P : Pos Z y bytes maxL ret n0 p l e R s m args below meth c T h cells slots) {z z' : Int32} {t : FieldType} (hr' : ret = some t) (ht : t = .boolean ∨ t = .byte ∨ t = .char ∨ t = .short) (hz : nar t z = z') (hd : decode bytes pc = .ok (.ireturn, 1)) (hk1 : cells ≤ kc) (hk2 : slots ≤ ks) (hQ : Q (some (.int z')) h) : Goes p e below s n0 kc ks Q (T.setTop (mkF m pc L (.int z :: S))) := by
  obtain ⟨⟨hx, rfl, rfl, hown, hnm, rfl, hlk, hZ, hn0⟩, locs, X, rfl, N⟩ := P
  subst hz
  obtain ⟨fs, hr, hrun, hended, hW, hsame⟩ := X.leave (v := some (.int (nar t z))) (fun h => by rw [hr'] at h; cases h) (hlocks := hlk)
  exact ⟨_, _, retN X hx hr' ht hd hr, hrun, hended, _, _, rfl, ⟨hQ, N⟩, ⟨_, rfl⟩, hW, hsame.mono hk1 hk2⟩
theorem lreturn (P : Pos Z y bytes maxL ret n0 p l e R s m args below meth c T h cells slots) {z : Int64} (hr' : ret = some .long) (hd : decode bytes pc = .ok (.lreturn, 1)) (hk1 : cells ≤ kc) (hk2 : slots ≤ ks) (hQ : Q (some (.long z)) h) : Goes p e below s n0 kc ks Q (T.setTop (mkF m pc L (.long z :: S))) := by
  obtain ⟨⟨hx, rfl, rfl, hown, hnm, rfl, hlk, hZ, hn0⟩, locs, X, rfl, N⟩ := P
  obtain ⟨fs, hr, hrun, hended, hW, hsame⟩ := X.leave (v := some (.long z)) (fun h => by rw [hr'] at h; cases h) (hlocks := hlk)
  exact ⟨_, _, retOut X hx hr' rfl (Or.inr (Or.inl ⟨rfl, rfl, _, rfl⟩)) hd hr, hrun, hended, _, _, rfl, ⟨hQ, N⟩, ⟨_, rfl⟩, hW, hsame.mono hk1 hk2⟩
theorem areturn (P : Pos Z y bytes maxL ret n0 p l e R s m args below meth c T h cells slots) {v : Value} {t : FieldType} (hr' : ret = some t) (ht : t.isReference = true) (hv : v.isRef = true) (hn : narrow t v = v) (hd : decode bytes pc = .ok (.areturn, 1)) (hk1 : cells ≤ kc) (hk2 : slots ≤ ks) (hQ : Q (some v) h) : Goes p e below s n0 kc ks Q (T.setTop (mkF m pc L (v :: S))) := by
  obtain ⟨⟨hx, rfl, rfl, hown, hnm, rfl, hlk, hZ, hn0⟩, locs, X, rfl, N⟩ := P
  obtain ⟨fs, hr, hrun, hended, hW, hsame⟩ := X.leave (v := some v) (fun h => by rw [hr'] at h; cases h) (hlocks := hlk)
  exact ⟨_, _, retOut X hx hr' hn (Or.inr (Or.inr (Or.inr (Or.inr ⟨rfl, ht, hv⟩)))) hd hr, hrun, hended, _, _, rfl, ⟨hQ, N⟩, ⟨_, rfl⟩, hW, hsame.mono hk1 hk2⟩
theorem return_ (P : Pos Z y bytes maxL ret n0 p l e R s m args below meth c T h cells slots) (hr' : ret = none) (hd : decode bytes pc = .ok (.return_, 1)) (hk1 : cells ≤ kc) (hk2 : slots ≤ ks) (hQ : Q none h) : Goes p e below s n0 kc ks Q (T.setTop (mkF m pc L [])) := by
  obtain ⟨⟨hx, rfl, rfl, hown, hnm, rfl, hlk, hZ, hn0⟩, locs, X, rfl, N⟩ := P
  obtain ⟨fs, hr, hrun, hended, hW, hsame⟩ := X.leave (v := none) (fun _ => rfl) (hlocks := hlk)
  exact ⟨_, _, X.returnOut hx hr' hd hr, hrun, hended, _, _, rfl, ⟨hQ, N⟩, ⟨_, rfl⟩, hW, hsame.mono hk1 hk2⟩
theorem getF (P : Pos Z y bytes maxL ret n0 p l e R s m args below meth c T h cells slots) {R0 O n d host : String} {i : Nat} {a : Addr} {v : Value} (w : (Jvm.Cond.fieldLink y.cls i R0 n d).before a0 Z = true ∨ (Jvm.Cond.fieldLinkNest y.cls i R0 n d host).before a0 Z = true) (via : Via Z R0 O n d) (F : Fld Z h a O n d v) (hd : decode bytes pc = .ok (.getfield i, 3)) (hp : pc + 3 = pc') (k : ∀ T', Pos Z y bytes maxL ret n0 p l e R s m args below meth c T' h cells slots → Goes p e below s n0 kc ks Q (T'.setTop (mkF m pc' L (v :: S)))) : Goes p e below s n0 kc ks Q (T.setTop (mkF m pc L (.ref a :: S))) := by
  obtain ⟨⟨hx, rfl, rfl, hown, hnm, rfl, hlk, hZ, hn0⟩, locs, X, rfl, N⟩ := P
  subst hp
  obtain ⟨T', X', e', st⟩ := Jvm.RoadKit.getF X hx hZ hown w via rfl F (g := mkF m pc L (.ref a :: S)) rfl rfl hd
  exact (k T' ⟨⟨hx, rfl, rfl, hown, hnm, rfl, hlk, hZ, hn0⟩, locs, X', e', N⟩).via st
theorem putF (P : Pos Z y bytes maxL ret n0 p l e R s m args below meth c T h cells slots) {R0 O n d host C : String} {i kk : Nat} {ty : FieldType} {a : Addr} {v old : Value} (w : (Jvm.Cond.fieldLink y.cls i R0 n d).before a0 Z = true ∨ (Jvm.Cond.fieldLinkNest y.cls i R0 n d host).before a0 Z = true) (via : Via Z R0 O n d) (F : Fld Z h a O n d old) (E : Exa Z h a C) (W : (Jvm.Cond.lays C O n d).before a0 Z = true ∨ ((Jvm.Cond.laysFinal C O n d).before a0 Z = true ∧ y.cls = O ∧ y.name = "<init>")) (wi : (Jvm.Cond.instantiable C kk).before a0 Z = true) (hty : parseFieldDescriptor d = some ty) (hn : narrow ty v = v) (hf : fits ty v = true) (hg : n0 ≤ a) (hd : decode bytes pc = .ok (.putfield i, 3)) (hp : pc + 3 = pc') (k : ∀ T' h', Pos Z y bytes maxL ret n0 p l e R s m args below meth c T' h' cells slots → Wr h h' a (RoadKit.slotOf Z O n d) v → Goes p e below s n0 kc ks Q (T'.setTop (mkF m pc' L S))) : Goes p e below s n0 kc ks Q (T.setTop (mkF m pc L (v :: .ref a :: S))) := by
  obtain ⟨⟨hx, rfl, rfl, hown, hnm, rfl, hlk, hZ, hn0⟩, locs, X, rfl, N⟩ := P
  subst hp
  obtain ⟨T', h', X', e', W', st⟩ := Jvm.RoadKit.putF X hx hZ hown w via rfl F E (W.imp id fun q => ⟨q.1, q.2.1, hnm.trans q.2.2⟩) wi hty hn hf (g := mkF m pc L (v :: .ref a :: S)) rfl rfl hd
  exact (k T' h' ⟨⟨hx, rfl, rfl, hown, hnm, rfl, hlk, hZ, hn0⟩, _, X', e', Fr.snoc X' N hg⟩ W').via st
theorem new (P : Pos Z y bytes maxL ret n0 p l e R s m args below meth c T h cells slots) {C : String} {i n : Nat} {cells' slots' : Nat} (w : (Jvm.Cond.classLink y.cls i C).before a0 Z = true) (wi : (Jvm.Cond.instantiable C n).before a0 Z = true) (wz : (Jvm.Cond.initialized C).before a0 Z = true) (hd : decode bytes pc = .ok (.new i, 3)) (hc : cells + 1 = cells') (hs : slots + n = slots') (hc' : cells' ≤ R.cells) (hs' : slots' ≤ R.slots) (hp : pc + 3 = pc') (k : ∀ T' h' b, b = h.size → n0 ≤ b → Pos Z y bytes maxL ret n0 p l e R s m args below meth c T' h' cells' slots' → Ext h h' → Exa Z h' b C → (∀ {O nm d : String} {ty : FieldType}, Laid Z a0 C O nm d → parseFieldDescriptor d = some ty → Fld Z h' b O nm d (defaultValue ty)) → Goes p e below s n0 kc ks Q (T'.setTop (mkF m pc' L (.ref b :: S)))) : Goes p e below s n0 kc ks Q (T.setTop (mkF m pc L S)) := by
  obtain ⟨⟨hx, rfl, rfl, hown, hnm, rfl, hlk, hZ, hn0⟩, locs, X, rfl, N⟩ := P
  subst hp hc hs
  obtain ⟨T', h', X', e', E', A', D', -, st⟩ := newO X hx hZ hown w wi wz rfl (g := mkF m pc L S) rfl hd hc' hs'
  exact (k T' h' _ rfl (Nat.le_trans hn0 X.same.2.1) ⟨⟨hx, rfl, rfl, hown, hnm, rfl, hlk, hZ, hn0⟩, _, X', e', N⟩ E' A' D').via st
theorem initO (P : Pos Z y bytes maxL ret n0 p l e R s m args below meth c T h cells slots) {i W : Nat} {a : Addr} (w1 : (Jvm.Cond.methodLink y.cls i Lib.objectInit).before a0 Z = true) (w2 : (Jvm.Cond.instanceMethod Lib.objectInit).before a0 Z = true) (w3 : (Jvm.Cond.code Lib.objectInit ⟨#[0xb1]⟩ 1 none).before a0 Z = true) (hsz : L.size = maxL) (hd : decode bytes pc = .ok (.invokespecial i, 3)) (hf : 1 ≤ R.frames) (hW : (S.map fun v => v.category).sum ≤ W) (hl : W + 12 ≤ R.locals) (hp : pc + 3 = pc') (k : ∀ T', Pos Z y bytes maxL ret n0 p l e R s m args below meth c T' h cells slots → Goes p e below s n0 kc ks Q (T'.setTop (mkF m pc' L S))) : Goes p e below s n0 kc ks Q (T.setTop (mkF m pc L (.ref a :: S))) := by
  obtain ⟨⟨hx, rfl, rfl, hown, hnm, rfl, hlk, hZ, hn0⟩, locs, X, rfl, N⟩ := P
  subst hp
  obtain ⟨T', X', e', st⟩ := Jvm.RoadKit.initO X hx hZ hown w1 w2 w3 rfl (g := mkF m pc L (.ref a :: S)) rfl hsz rfl hd hf (W := W) (by have q0 := hW; show 2 * 0 + _ ≤ _; omega) hl
  exact (k T' ⟨⟨hx, rfl, rfl, hown, hnm, rfl, hlk, hZ, hn0⟩, locs, X', e', N⟩).via st
theorem callS (P : Pos Z y bytes maxL ret n0 p l e R s m args below meth c T h cells slots) {y' : MethodName} {bytes' : ByteArray} {maxL' : Nat} {ret' : Option FieldType} {rm : Room} {i W cells' slots' : Nat} {argsL rest : List Value} {Q' : Option Value → Heap → Prop} (w1 : (Jvm.Cond.methodLink y.cls i y').before a0 Z = true) (w2 : (Jvm.Cond.static y').before a0 Z = true) (w3 : (Jvm.Cond.initialized y'.cls).before a0 Z = true) (w4 : (Jvm.Cond.code y' bytes' maxL' ret').before a0 Z = true) (hy : y'.cls ≠ "java/lang/invoke/MethodHandle" ∧ y'.cls ≠ "java/lang/invoke/VarHandle") (K : Con l Z y' bytes' maxL' ret' rm n0 argsL.toArray h Q') (hf : rm.frames + 1 ≤ R.frames) (hl : W + (maxL' + 11) + rm.locals ≤ R.locals) (hc : cells + rm.cells = cells') (hs : slots + rm.slots = slots') (hc' : cells' ≤ R.cells) (hs' : slots' ≤ R.slots) (hlen : ∀ sig, parseMethodDescriptor y'.desc = some sig → argsL.length = sig.parameters.length) (hsz : L.size = maxL) (hst : S = argsL.reverse ++ rest) (hW : (rest.map fun v => v.category).sum ≤ W) (hd : decode bytes pc = .ok (.invokestatic i, 3)) (hp : pc + 3 = pc') (k : ∀ T' h' v, Pos Z y bytes maxL ret n0 p l e R s m args below meth c T' h' cells' slots' → Q' v h' → Goes p e below s n0 kc ks Q (T'.setTop (mkF m pc' L (v.toList ++ rest)))) : Goes p e below s n0 kc ks Q (T.setTop (mkF m pc L S)) := by
  obtain ⟨⟨hx, rfl, rfl, hown, hnm, rfl, hlk, hZ, hn0⟩, locs, X, rfl, N⟩ := P
  subst hp hc hs hst
  obtain ⟨v, _, ⟨T', L1, k1, n1⟩, -, X', ⟨Lc, ⟨hQ, hN⟩, l1, y1, z1⟩, st⟩ := Jvm.LawKit.callS X hx hown (mvT hZ w1) (mvT hZ w2) (mvT hZ w3) (mvT hZ w4) hy (backOf (W := W) (Q := fun v h L => Q' v h ∧ Fr n0 L) (K []) hZ w4 w3 hf hl) (g := mkF m pc L (argsL.reverse ++ rest)) rfl hsz (argsL := argsL) (rest := rest) hlen rfl (by have q0 := hW; show 2 * 0 + _ ≤ _; omega) hd (fun _ _ => ⟨rfl, rfl, hc', hs'⟩)
  dsimp only [Pt.U, Pt.locs, Pt.cells, Pt.slots] at X' l1 y1 z1 st hQ
  subst l1 y1 z1
  exact (k T' _ v ⟨⟨hx, rfl, rfl, hown, hnm, rfl, hlk, hZ, hn0⟩, _, X', rfl, Fr.app N hN⟩ hQ).via st
theorem callI (P : Pos Z y bytes maxL ret n0 p l e R s m args below meth c T h cells slots) {y' : MethodName} {bytes' : ByteArray} {maxL' : Nat} {rm : Room} {i W cells' slots' : Nat} {argsL rest : List Value} {Q' : Option Value → Heap → Prop} {a : Addr} (hy1 : y'.name = "<init>") (w1 : (Jvm.Cond.methodLink y.cls i y').before a0 Z = true) (w2 : (Jvm.Cond.instanceMethod y').before a0 Z = true) (w3 : (Jvm.Cond.initialized y'.cls).before a0 Z = true) (w4 : (Jvm.Cond.code y' bytes' maxL' none).before a0 Z = true) (hy : y'.cls ≠ "java/lang/invoke/MethodHandle" ∧ y'.cls ≠ "java/lang/invoke/VarHandle") (K : Con l Z y' bytes' maxL' none rm n0 (.ref a :: argsL).toArray h Q') (hf : rm.frames + 1 ≤ R.frames) (hl : W + (maxL' + 11) + rm.locals ≤ R.locals) (hc : cells + rm.cells = cells') (hs : slots + rm.slots = slots') (hc' : cells' ≤ R.cells) (hs' : slots' ≤ R.slots) (hlen : ∀ sig, parseMethodDescriptor y'.desc = some sig → argsL.length = sig.parameters.length) (hsz : L.size = maxL) (hst : S = argsL.reverse ++ .ref a :: rest) (hW : (rest.map fun v => v.category).sum ≤ W) (hd : decode bytes pc = .ok (.invokespecial i, 3)) (hp : pc + 3 = pc') (k : ∀ T' h' v, Pos Z y bytes maxL ret n0 p l e R s m args below meth c T' h' cells' slots' → Q' v h' → Goes p e below s n0 kc ks Q (T'.setTop (mkF m pc' L (v.toList ++ rest)))) : Goes p e below s n0 kc ks Q (T.setTop (mkF m pc L S)) := by
  obtain ⟨⟨hx, rfl, rfl, hown, hnm, rfl, hlk, hZ, hn0⟩, locs, X, rfl, N⟩ := P
  subst hp hc hs hst
  obtain ⟨v, _, ⟨T', L1, k1, n1⟩, -, X', ⟨Lc, ⟨hQ, hN⟩, l1, y1, z1⟩, st⟩ := X.specialBack hx hy1 hown (mvT hZ w1) (mvT hZ w2) (mvT hZ w4) hy (backOf (W := W) (Q := fun v h L => Q' v h ∧ Fr n0 L) (K []) hZ w4 w3 hf hl) (g := mkF m pc L (argsL.reverse ++ .ref a :: rest)) rfl hsz (Steps.refl _) (a := a) (argsL := argsL) (rest := rest) hlen rfl (by have q0 := hW; show 2 * 0 + _ ≤ _; omega) hd (fun _ _ => ⟨rfl, rfl, hc', hs'⟩)
  dsimp only [Pt.U, Pt.locs, Pt.cells, Pt.slots] at X' l1 y1 z1 st hQ
  subst l1 y1 z1
  exact (k T' _ v ⟨⟨hx, rfl, rfl, hown, hnm, rfl, hlk, hZ, hn0⟩, _, X', rfl, Fr.app N hN⟩ hQ).via fun _ q => st.trans q
theorem callV (P : Pos Z y bytes maxL ret n0 p l e R s m args below meth c T h cells slots) {y' : MethodName} {bytes' : ByteArray} {maxL' : Nat} {ret' : Option FieldType} {rm : Room} {i W cells' slots' : Nat} {argsL rest : List Value} {Q' : Option Value → Heap → Prop} {a : Addr} {C : String} (w1 : (Jvm.Cond.methodLink y.cls i y').before a0 Z = true) (w2 : (Jvm.Cond.declares y').before a0 Z = true) (w5 : (Jvm.Cond.selects C y' y').before a0 Z = true) (w6 : (Jvm.Cond.instanceMethod y').before a0 Z = true) (w3 : (Jvm.Cond.initialized y'.cls).before a0 Z = true) (w4 : (Jvm.Cond.code y' bytes' maxL' ret').before a0 Z = true) (hy : y'.cls ≠ "java/lang/invoke/MethodHandle" ∧ y'.cls ≠ "java/lang/invoke/VarHandle") (E : Exa Z h a C) (K : Con l Z y' bytes' maxL' ret' rm n0 (.ref a :: argsL).toArray h Q') (hf : rm.frames + 1 ≤ R.frames) (hl : W + (maxL' + 11) + rm.locals ≤ R.locals) (hc : cells + rm.cells = cells') (hs : slots + rm.slots = slots') (hc' : cells' ≤ R.cells) (hs' : slots' ≤ R.slots) (hlen : ∀ sig, parseMethodDescriptor y'.desc = some sig → argsL.length = sig.parameters.length) (hsz : L.size = maxL) (hst : S = argsL.reverse ++ .ref a :: rest) (hW : (rest.map fun v => v.category).sum ≤ W) (hd : decode bytes pc = .ok (.invokevirtual i, 3)) (hp : pc + 3 = pc') (k : ∀ T' h' v, Pos Z y bytes maxL ret n0 p l e R s m args below meth c T' h' cells' slots' → Q' v h' → Goes p e below s n0 kc ks Q (T'.setTop (mkF m pc' L (v.toList ++ rest)))) : Goes p e below s n0 kc ks Q (T.setTop (mkF m pc L S)) := by
  obtain ⟨⟨hx, rfl, rfl, hown, hnm, rfl, hlk, hZ, hn0⟩, locs, X, rfl, N⟩ := P
  obtain ⟨cq, kq, qa, qb, qc⟩ := isOf (T := T) hZ rfl E
  subst hp hc hs hst
  obtain ⟨v, _, ⟨T', L1, k1, n1⟩, -, X', ⟨Lc, ⟨hQ, hN⟩, l1, y1, z1⟩, st⟩ := X.virtualBack hx (y := y') (z := y') hown (mvT hZ w1) (mvT hZ w2) (notFace_of_selects (args := #[]) (mvT hZ w5)) (mvT hZ w5) (mvT hZ w6) hy (backOf (W := W) (Q := fun v h L => Q' v h ∧ Fr n0 L) (K []) hZ w4 w3 hf hl) qa qc (g := mkF m pc L (argsL.reverse ++ .ref a :: rest)) rfl hsz (Steps.refl _) (argsL := argsL) (rest := rest) hlen rfl (by have q0 := hW; show 2 * 0 + _ ≤ _; omega) hd (fun _ _ => ⟨rfl, rfl, hc', hs'⟩)
  dsimp only [Pt.U, Pt.locs, Pt.cells, Pt.slots] at X' l1 y1 z1 st hQ
  subst l1 y1 z1
  exact (k T' _ v ⟨⟨hx, rfl, rfl, hown, hnm, rfl, hlk, hZ, hn0⟩, _, X', rfl, Fr.app N hN⟩ hQ).via fun _ q => st.trans q
theorem callP (P : Pos Z y bytes maxL ret n0 p l e R s m args below meth c T h cells slots) {y' : MethodName} {bytes' : ByteArray} {maxL' : Nat} {ret' : Option FieldType} {rm : Room} {i W cells' slots' : Nat} {argsL rest : List Value} {Q' : Option Value → Heap → Prop} {a : Addr} {C : String} (w1 : (Jvm.Cond.methodLink y.cls i y').before a0 Z = true) {kk : Nat} (wi : (Jvm.Cond.instantiable y'.cls kk).before a0 Z = true) (w6 : (Jvm.Cond.instanceMethod y').before a0 Z = true) (w7 : (Jvm.Cond.privateMethod y').before a0 Z = true) (w3 : (Jvm.Cond.initialized y'.cls).before a0 Z = true) (w4 : (Jvm.Cond.code y' bytes' maxL' ret').before a0 Z = true) (hy : y'.cls ≠ "java/lang/invoke/MethodHandle" ∧ y'.cls ≠ "java/lang/invoke/VarHandle") (E : Exa Z h a C) (K : Con l Z y' bytes' maxL' ret' rm n0 (.ref a :: argsL).toArray h Q') (hf : rm.frames + 1 ≤ R.frames) (hl : W + (maxL' + 11) + rm.locals ≤ R.locals) (hc : cells + rm.cells = cells') (hs : slots + rm.slots = slots') (hc' : cells' ≤ R.cells) (hs' : slots' ≤ R.slots) (hlen : ∀ sig, parseMethodDescriptor y'.desc = some sig → argsL.length = sig.parameters.length) (hsz : L.size = maxL) (hst : S = argsL.reverse ++ .ref a :: rest) (hW : (rest.map fun v => v.category).sum ≤ W) (hd : decode bytes pc = .ok (.invokevirtual i, 3)) (hp : pc + 3 = pc') (k : ∀ T' h' v, Pos Z y bytes maxL ret n0 p l e R s m args below meth c T' h' cells' slots' → Q' v h' → Goes p e below s n0 kc ks Q (T'.setTop (mkF m pc' L (v.toList ++ rest)))) : Goes p e below s n0 kc ks Q (T.setTop (mkF m pc L S)) := by
  obtain ⟨⟨hx, rfl, rfl, hown, hnm, rfl, hlk, hZ, hn0⟩, locs, X, rfl, N⟩ := P
  obtain ⟨cq, q1, q2⟩ := E.cell
  obtain ⟨ci, ki, j1, j2, -, j3, -⟩ := Cond.instantiable_spec wi
  have w5 : (Jvm.Cond.selects y'.cls y' y').before a0 Z = true := selects_self_of_private j1 j2 (by simp only [Bool.or_eq_false_iff] at j3; exact j3.1) (Cond.privateMethod_at w7) w6 hy
  subst hp hc hs hst
  obtain ⟨v, _, ⟨T', L1, k1, n1⟩, -, X', ⟨Lc, ⟨hQ, hN⟩, l1, y1, z1⟩, st⟩ := X.privateBack hx (y := y') hown (mvT hZ w1) (mvT hZ w6) (mvT hZ w5) (Cond.privateMethod_at (mvP hZ w7 (args := #[]))) (mvT hZ w4) hy (backOf (W := W) (Q := fun v h L => Q' v h ∧ Fr n0 L) (K []) hZ w4 w3 hf hl) (g := mkF m pc L (argsL.reverse ++ .ref a :: rest)) rfl hsz (Steps.refl _) (a := a) q1 q2 (argsL := argsL) (rest := rest) hlen rfl (by have q0 := hW; show 2 * 0 + _ ≤ _; omega) hd (fun _ _ => ⟨rfl, rfl, hc', hs'⟩)
  dsimp only [Pt.U, Pt.locs, Pt.cells, Pt.slots] at X' l1 y1 z1 st hQ
  subst l1 y1 z1
  exact (k T' _ v ⟨⟨hx, rfl, rfl, hown, hnm, rfl, hlk, hZ, hn0⟩, _, X', rfl, Fr.app N hN⟩ hQ).via fun _ q => st.trans q
end Plain
end G
/-- an array at a: n places, the i-th holds the int f i -/
def Ints (Z : State) (h : Heap) (a : Addr) (ty : FieldType) (n : Nat) (f : Nat → Int32) : Prop := n < 2 ^ 31 ∧ ∃ c : Cell, Arr Z h a c ty ∧ c.slots.size = n ∧ ∀ i, i < n → c.slots[i]? = some (.int (f i))
def oupd (f : Nat → Int32) (i : Nat) (x : Int32) : Nat → Int32 := fun k => if k = i then x else f k
def lst (l : List Int32) : Nat → Int32 := fun i => l.getD i 0
section Arrays
variable {Z : State} {h h' : Heap} {a b : Addr} {ty : FieldType} {n : Nat} {f : Nat → Int32} {sl : Nat} {v : Value} {ws : List Addr}
theorem Ints.lt (A : Ints Z h a ty n f) : a < h.size := by obtain ⟨_, c, A, -⟩ := A; exact A.lt
theorem Ints.ext (A : Ints Z h a ty n f) (E : Ext h h') : Ints Z h' a ty n f := by obtain ⟨q, c, A, r⟩ := A; exact ⟨q, c, A.ext E, r⟩
theorem Ints.other (A : Ints Z h b ty n f) (W : Wr h h' a sl v) (q : b ≠ a) : Ints Z h' b ty n f := by obtain ⟨r, c, A, r'⟩ := A; exact ⟨r, c, A.other W q, r'⟩
theorem Ints.keep (A : Ints Z h a ty n f) (K : Keep h h' ws) (q : a ∉ ws) : Ints Z h' a ty n f := by obtain ⟨r, c, A, r'⟩ := A; exact ⟨r, c, ⟨K.2.1 a c A.1 q, A.2⟩, r'⟩
theorem Ints.congr {g : Nat → Int32} (A : Ints Z h a ty n f) (q : ∀ i, i < n → f i = g i) : Ints Z h a ty n g := by obtain ⟨r, c, A, s, r'⟩ := A; exact ⟨r, c, A, s, fun i hi => by rw [r' i hi, q i hi]⟩
theorem Ints.same {i : Nat} {x : Int32} (A : Ints Z h a ty n f) (W : Wr h h' a i (.int x)) : Ints Z h' a ty n (oupd f i x) := by
  obtain ⟨q, c, A, s, r⟩ := A
  refine ⟨q, _, A.same W, (sz_set _ _ _).trans s, fun j hj => ?_⟩
  show (c.slots.setIfInBounds i (.int x))[j]? = _
  by_cases e : j = i
  · subst e
    rw [Array.getElem?_setIfInBounds_self_of_lt (by omega)]
    simp [oupd]
  · rw [Array.getElem?_setIfInBounds_ne (Ne.symm e), r j hj]
    simp [oupd, e]
theorem idx {j : Int32} {i : Nat} (hj : j.toInt = (i : Int)) : ¬ j < 0 ∧ j.toNatClampNeg = i := by
  have q : ¬ j < 0 := by rw [Int32.lt_iff_toInt_lt, hj]; show ¬ ((i : Int) < 0); omega
  have r := nat_of q
  exact ⟨q, by omega⟩
theorem idx_in' {j : Int32} {i : Nat} {c : Cell} (hj : j.toInt = (i : Int)) (hi : i < c.slots.size) : ¬ (j < 0 ∨ c.slots.size ≤ j.toNatClampNeg) := by
  obtain ⟨q, r⟩ := idx hj
  rw [r]
  rintro (s | s)
  · exact q s
  · omega
end Arrays
namespace G
section Plain
variable {Z : State} {y : MethodName} {bytes : ByteArray} {maxL : Nat} {ret : Option FieldType} {n0 : Nat} {p : Program} {l : Launch} {e : Env} {R : Room} {s : State} {m : MethodId} {args : Array Value} {below : List Frame} {meth : Method} {c : Code} {T : State} {h : Heap} {cells slots kc ks : Nat} {Q : Option Value → Heap → Prop} {pc pc' pcY pcN : Nat} {L L' : Array Slot} {S : List Value} {a0 : Array Value}
theorem iaload (P : Pos Z y bytes maxL ret n0 p l e R s m args below meth c T h cells slots) {a : Addr} {n i : Nat} {f : Nat → Int32} {j : Int32} (A : Ints Z h a .int n f) (hj : j.toInt = (i : Int)) (hi : i < n) (hd : decode bytes pc = .ok (.iaload, 1)) (hp : pc + 1 = pc') (k : Goes p e below s n0 kc ks Q (T.setTop (mkF m pc' L (.int (f i) :: S)))) : Goes p e below s n0 kc ks Q (T.setTop (mkF m pc L (.int j :: .ref a :: S))) := by
  obtain ⟨⟨hx, rfl, rfl, hown, hnm, rfl, hlk, hZ, hn0⟩, locs, X, rfl, N⟩ := P
  subst hp
  obtain ⟨-, cl, Ar, sz, r⟩ := A
  exact k.via fun t q => X.iaload hx (j := j) (v := .int (f i)) Ar.1 (State.isArrayOf_alike hZ.alike Ar.2.1) Ar.2.2 (idx_in' hj (by omega)) (by rw [(idx hj).2]; exact r i hi) (g := mkF m pc L (.int j :: .ref a :: S)) rfl rfl hd _ q
theorem baload (P : Pos Z y bytes maxL ret n0 p l e R s m args below meth c T h cells slots) {a : Addr} {n i : Nat} {f : Nat → Int32} {j : Int32} (A : Ints Z h a .byte n f) (hj : j.toInt = (i : Int)) (hi : i < n) (hd : decode bytes pc = .ok (.baload, 1)) (hp : pc + 1 = pc') (k : Goes p e below s n0 kc ks Q (T.setTop (mkF m pc' L (.int (f i) :: S)))) : Goes p e below s n0 kc ks Q (T.setTop (mkF m pc L (.int j :: .ref a :: S))) := by
  obtain ⟨⟨hx, rfl, rfl, hown, hnm, rfl, hlk, hZ, hn0⟩, locs, X, rfl, N⟩ := P
  subst hp
  obtain ⟨-, cl, Ar, sz, r⟩ := A
  exact k.via fun t q => X.baloadBytes hx (j := j) (v := .int (f i)) Ar.1 (State.isArrayOf_alike hZ.alike Ar.2.1) Ar.2.2 (idx_in' hj (by omega)) (by rw [(idx hj).2]; exact r i hi) (g := mkF m pc L (.int j :: .ref a :: S)) rfl rfl hd _ q
theorem zaload (P : Pos Z y bytes maxL ret n0 p l e R s m args below meth c T h cells slots) {a : Addr} {n i : Nat} {f : Nat → Int32} {j : Int32} (A : Ints Z h a .boolean n f) (hj : j.toInt = (i : Int)) (hi : i < n) (hd : decode bytes pc = .ok (.baload, 1)) (hp : pc + 1 = pc') (k : Goes p e below s n0 kc ks Q (T.setTop (mkF m pc' L (.int (f i) :: S)))) : Goes p e below s n0 kc ks Q (T.setTop (mkF m pc L (.int j :: .ref a :: S))) := by
  obtain ⟨⟨hx, rfl, rfl, hown, hnm, rfl, hlk, hZ, hn0⟩, locs, X, rfl, N⟩ := P
  subst hp
  obtain ⟨-, cl, Ar, sz, r⟩ := A
  exact k.via fun t q => X.baloadBooleans hx (j := j) (v := .int (f i)) Ar.1 (State.isArrayOf_alike hZ.alike Ar.2.1) Ar.2.2 (idx_in' hj (by omega)) (by rw [(idx hj).2]; exact r i hi) (g := mkF m pc L (.int j :: .ref a :: S)) rfl rfl hd _ q
theorem iastore (P : Pos Z y bytes maxL ret n0 p l e R s m args below meth c T h cells slots) {a : Addr} {n i : Nat} {f : Nat → Int32} {j x : Int32} (A : Ints Z h a .int n f) (hj : j.toInt = (i : Int)) (hi : i < n) (hg : n0 ≤ a) (hd : decode bytes pc = .ok (.iastore, 1)) (hp : pc + 1 = pc') (k : ∀ T' h', Pos Z y bytes maxL ret n0 p l e R s m args below meth c T' h' cells slots → Wr h h' a i (.int (x)) → Goes p e below s n0 kc ks Q (T'.setTop (mkF m pc' L S))) : Goes p e below s n0 kc ks Q (T.setTop (mkF m pc L (.int x :: .int j :: .ref a :: S))) := by
  obtain ⟨⟨hx, rfl, rfl, hown, hnm, rfl, hlk, hZ, hn0⟩, locs, X, rfl, N⟩ := P
  subst hp
  obtain ⟨-, cl, Ar, sz, r⟩ := A
  obtain ⟨T', h', X', e', W', st⟩ := stI X hx hZ rfl Ar (j := j) (x := x) (idx_in' hj (by omega)) (g := mkF m pc L (.int x :: .int j :: .ref a :: S)) rfl rfl hd
  have hP := Fr.snoc X' N hg
  rw [(idx hj).2] at W'
  exact (k T' h' ⟨⟨hx, rfl, rfl, hown, hnm, rfl, hlk, hZ, hn0⟩, _, X', e', hP⟩ W').via st
theorem bastore (P : Pos Z y bytes maxL ret n0 p l e R s m args below meth c T h cells slots) {a : Addr} {n i : Nat} {f : Nat → Int32} {j x : Int32} (A : Ints Z h a .byte n f) (hj : j.toInt = (i : Int)) (hi : i < n) (hg : n0 ≤ a) (hd : decode bytes pc = .ok (.bastore, 1)) (hp : pc + 1 = pc') (k : ∀ T' h', Pos Z y bytes maxL ret n0 p l e R s m args below meth c T' h' cells slots → Wr h h' a i (.int (nar .byte x)) → Goes p e below s n0 kc ks Q (T'.setTop (mkF m pc' L S))) : Goes p e below s n0 kc ks Q (T.setTop (mkF m pc L (.int x :: .int j :: .ref a :: S))) := by
  obtain ⟨⟨hx, rfl, rfl, hown, hnm, rfl, hlk, hZ, hn0⟩, locs, X, rfl, N⟩ := P
  subst hp
  obtain ⟨-, cl, Ar, sz, r⟩ := A
  obtain ⟨T', h', X', e', W', st⟩ := stB X hx hZ rfl Ar (j := j) (x := x) (idx_in' hj (by omega)) (g := mkF m pc L (.int x :: .int j :: .ref a :: S)) rfl rfl hd
  have hP := Fr.snoc X' N hg
  rw [(idx hj).2] at W'
  exact (k T' h' ⟨⟨hx, rfl, rfl, hown, hnm, rfl, hlk, hZ, hn0⟩, _, X', e', hP⟩ W').via st
theorem zastore (P : Pos Z y bytes maxL ret n0 p l e R s m args below meth c T h cells slots) {a : Addr} {n i : Nat} {f : Nat → Int32} {j x : Int32} (A : Ints Z h a .boolean n f) (hj : j.toInt = (i : Int)) (hi : i < n) (hg : n0 ≤ a) (hd : decode bytes pc = .ok (.bastore, 1)) (hp : pc + 1 = pc') (k : ∀ T' h', Pos Z y bytes maxL ret n0 p l e R s m args below meth c T' h' cells slots → Wr h h' a i (.int (nar .boolean x)) → Goes p e below s n0 kc ks Q (T'.setTop (mkF m pc' L S))) : Goes p e below s n0 kc ks Q (T.setTop (mkF m pc L (.int x :: .int j :: .ref a :: S))) := by
  obtain ⟨⟨hx, rfl, rfl, hown, hnm, rfl, hlk, hZ, hn0⟩, locs, X, rfl, N⟩ := P
  subst hp
  obtain ⟨-, cl, Ar, sz, r⟩ := A
  obtain ⟨T', h', X', e', W', st⟩ := stZ X hx hZ rfl Ar (j := j) (x := x) (idx_in' hj (by omega)) (g := mkF m pc L (.int x :: .int j :: .ref a :: S)) rfl rfl hd
  have hP := Fr.snoc X' N hg
  rw [(idx hj).2] at W'
  exact (k T' h' ⟨⟨hx, rfl, rfl, hown, hnm, rfl, hlk, hZ, hn0⟩, _, X', e', hP⟩ W').via st
theorem arraylength (P : Pos Z y bytes maxL ret n0 p l e R s m args below meth c T h cells slots) {a : Addr} {n : Nat} {f : Nat → Int32} {ty : FieldType} {z : Int32} (A : Ints Z h a ty n f) (hz : z.toInt = (n : Int)) (hd : decode bytes pc = .ok (.arraylength, 1)) (hp : pc + 1 = pc') (k : Goes p e below s n0 kc ks Q (T.setTop (mkF m pc' L (.int z :: S)))) : Goes p e below s n0 kc ks Q (T.setTop (mkF m pc L (.ref a :: S))) := by
  obtain ⟨⟨hx, rfl, rfl, hown, hnm, rfl, hlk, hZ, hn0⟩, locs, X, rfl, N⟩ := P
  subst hp
  obtain ⟨hn, cl, Ar, sz, r⟩ := A
  have e' : cl.slots.size.toInt32 = z := by rw [sz, ← (idx hz).2]; exact (back32 (idx hz).1).1
  exact k.via fun t q => X.arraylength hx Ar.1 (State.isArrayOf_alike hZ.alike Ar.2.1) (g := mkF m pc L (.ref a :: S)) rfl rfl hd _ (by rw [e']; exact q)
theorem newarray (P : Pos Z y bytes maxL ret n0 p l e R s m args below meth c T h cells slots) {aty : ArrayType} {z : Int32} {N cap cells' slots' : Nat} (w : (Jvm.Cond.arrayClass (newarray.typeOf aty)).before a0 Z = true) (hdv : defaultValue (newarray.typeOf aty) = .int 0) (hz : z.toInt = (N : Int)) (hcap : N ≤ cap) (hb : cap * 8 ≤ 536870912) (hd : decode bytes pc = .ok (.newarray aty, 2)) (hc : cells + 1 = cells') (hs : slots + cap = slots') (hc' : cells' ≤ R.cells) (hs' : slots' ≤ R.slots) (hp : pc + 2 = pc') (k : ∀ T' h' b, b = h.size → n0 ≤ b → Pos Z y bytes maxL ret n0 p l e R s m args below meth c T' h' cells' slots' → Ext h h' → Ints Z h' b (newarray.typeOf aty) N (fun _ => 0) → Goes p e below s n0 kc ks Q (T'.setTop (mkF m pc' L (.ref b :: S)))) : Goes p e below s n0 kc ks Q (T.setTop (mkF m pc L (.int z :: S))) := by
  obtain ⟨⟨hx, rfl, rfl, hown, hnm, rfl, hlk, hZ, hn0⟩, locs, X, rfl, NF⟩ := P
  subst hp hc hs
  obtain ⟨q1, q2⟩ := idx hz
  obtain ⟨T', h', cA, X', e', E', A', st⟩ := newP X hx hZ w rfl (g := mkF m pc L (.int z :: S)) rfl hd rfl q1 (cap := cap) (by omega) hb hc' hs'
  have h32 := (back32 q1).2
  refine (k T' h' _ rfl (Nat.le_trans hn0 X.same.2.1) ⟨⟨hx, rfl, rfl, hown, hnm, rfl, hlk, hZ, hn0⟩, _, X', e', NF⟩ E' ⟨by omega, _, A', by rw [sz_new]; exact q2, fun i hi => ?_⟩).via st
  show (Array.replicate z.toNatClampNeg (defaultValue _))[i]? = some (.int 0)
  rw [hdv, Array.getElem?_replicate, if_pos (by omega)]
theorem top {x x' : Int32} (h : x = x') (k : Goes p e below s n0 kc ks Q (T.setTop (mkF m pc L (.int x' :: S)))) : Goes p e below s n0 kc ks Q (T.setTop (mkF m pc L (.int x :: S))) := by subst h; exact k
theorem topL {x x' : Int64} (h : x = x') (k : Goes p e below s n0 kc ks Q (T.setTop (mkF m pc L (.long x' :: S)))) : Goes p e below s n0 kc ks Q (T.setTop (mkF m pc L (.long x :: S))) := by subst h; exact k
theorem top1 {x x' : Int32} {u : Value} (h : x = x') (k : Goes p e below s n0 kc ks Q (T.setTop (mkF m pc L (u :: .int x' :: S)))) : Goes p e below s n0 kc ks Q (T.setTop (mkF m pc L (u :: .int x :: S))) := by subst h; exact k
theorem lswHit (P : Pos Z y bytes maxL ret n0 p l e R s m args below meth c T h cells slots) {x : Int32} {df a off : Int} {pairs : Array (Int × Int)} {len : Nat} (hd : decode bytes pc = .ok (.lookupswitch df pairs, len)) (hs : (pairs.toList.zip (pairs.toList.drop 1)).all (fun (a, next) => a.1 < next.1) = true) (hf : pairs.find? (·.1 == x.toInt) = some (a, off)) (ho : 0 ≤ (pc : Int) + off) (hp : ((pc : Int) + off).toNat = pc') (k : Goes p e below s n0 kc ks Q (T.setTop (mkF m pc' L S))) : Goes p e below s n0 kc ks Q (T.setTop (mkF m pc L (.int x :: S))) := by
  obtain ⟨⟨hx, rfl, rfl, hown, hnm, rfl, hlk, hZ, hn0⟩, locs, X, rfl, N⟩ := P
  subst hp
  exact k.via fun t q => X.lookupswitchHit hx (g := mkF m pc L (.int x :: S)) rfl rfl hd hs hf ho _ q
theorem lswMiss (P : Pos Z y bytes maxL ret n0 p l e R s m args below meth c T h cells slots) {x : Int32} {df : Int} {pairs : Array (Int × Int)} {len : Nat} (hd : decode bytes pc = .ok (.lookupswitch df pairs, len)) (hs : (pairs.toList.zip (pairs.toList.drop 1)).all (fun (a, next) => a.1 < next.1) = true) (hf : ∀ q ∈ pairs.toList, q.1 ≠ x.toInt) (ho : 0 ≤ (pc : Int) + df) (hp : ((pc : Int) + df).toNat = pc') (k : Goes p e below s n0 kc ks Q (T.setTop (mkF m pc' L S))) : Goes p e below s n0 kc ks Q (T.setTop (mkF m pc L (.int x :: S))) := by
  obtain ⟨⟨hx, rfl, rfl, hown, hnm, rfl, hlk, hZ, hn0⟩, locs, X, rfl, N⟩ := P
  subst hp
  exact k.via fun t q => X.lookupswitchMiss hx (g := mkF m pc L (.int x :: S)) rfl rfl hd hs (find_miss hf) ho _ q
theorem tswIn (P : Pos Z y bytes maxL ret n0 p l e R s m args below meth c T h cells slots) {x : Int32} {df lo hi off : Int} {offs : Array Int} {len : Nat} (hd : decode bytes pc = .ok (.tableswitch df lo hi offs, len)) (hin : ¬ (x.toInt < lo ∨ x.toInt > hi)) (hf : offs[(x.toInt - lo).toNat]? = some off) (ho : 0 ≤ (pc : Int) + off) (hp : ((pc : Int) + off).toNat = pc') (k : Goes p e below s n0 kc ks Q (T.setTop (mkF m pc' L S))) : Goes p e below s n0 kc ks Q (T.setTop (mkF m pc L (.int x :: S))) := by
  obtain ⟨⟨hx, rfl, rfl, hown, hnm, rfl, hlk, hZ, hn0⟩, locs, X, rfl, N⟩ := P
  exact k.via fun t q => XS.tswIn X.here hx rfl (pc0 := pc) (pc' := pc') rfl hd rfl hin hf ho hp q
end Plain
end G
end Jvm.OwnW
namespace Jvm.Pilot.@@N@@
open Jvm Jvm.ClassFile Sem Op Lib Jvm.Free Jvm.Stand Jvm.LawKit Jvm.RoadKit Jvm.OwnW Bundle Jvm.Pilot.@@N@@.Jvm.D
theorem wd {Z : State} {a0 : Array Value} (hw : ∀ d ∈ tables_1, d.before a0 Z = true) {i : Nat} {d : Jvm.Cond} (h : tables_1[i]? = some d) : d.before a0 Z = true := hw _ (List.mem_of_getElem? h)
theorem own_off (k e : Int32) (n d : Nat) (h : k.toInt = (n : Int)) (he : e.toInt = (d : Int)) (hn : n ≤ 4) (hd : d ≤ 3) : (k + e).toInt = ((n + d : Nat) : Int) := by
  have h1 := c_iadd k e
  have h2 := rng32 (k + e)
  omega
theorem own_ix (x k : Int32) (h : (x &&& 2147483647) % 5 = k) : k.toInt = (k.toInt.toNat : Int) ∧ k.toInt.toNat ≤ 4 := by
  have h1 := c_mask x 2147483647 31 (by decide) (by decide)
  have h2 := (c_irem (x &&& 2147483647) 5 5 (by decide)).1 (by omega)
  rw [h] at h2
  omega
theorem d1_0 : decode prog_12_method_15_code 0 = .ok (.aload_n 0, 1) := by decide +kernel
theorem d1_1 : decode prog_12_method_15_code 1 = .ok (.iload_n 1, 1) := by decide +kernel
theorem d1_2 : decode prog_12_method_15_code 2 = .ok (.baload, 1) := by decide +kernel
theorem d1_3 : decode prog_12_method_15_code 3 = .ok (.sipush 255, 3) := by decide +kernel
theorem d1_6 : decode prog_12_method_15_code 6 = .ok (.iand, 1) := by decide +kernel
theorem d1_7 : decode prog_12_method_15_code 7 = .ok (.bipush 24, 2) := by decide +kernel
theorem d1_9 : decode prog_12_method_15_code 9 = .ok (.ishl, 1) := by decide +kernel
theorem d1_10 : decode prog_12_method_15_code 10 = .ok (.aload_n 0, 1) := by decide +kernel
theorem d1_11 : decode prog_12_method_15_code 11 = .ok (.iload_n 1, 1) := by decide +kernel
theorem d1_12 : decode prog_12_method_15_code 12 = .ok (.iconst 1, 1) := by decide +kernel
theorem d1_13 : decode prog_12_method_15_code 13 = .ok (.iadd, 1) := by decide +kernel
theorem d1_14 : decode prog_12_method_15_code 14 = .ok (.baload, 1) := by decide +kernel
theorem d1_15 : decode prog_12_method_15_code 15 = .ok (.sipush 255, 3) := by decide +kernel
theorem d1_18 : decode prog_12_method_15_code 18 = .ok (.iand, 1) := by decide +kernel
theorem d1_19 : decode prog_12_method_15_code 19 = .ok (.bipush 16, 2) := by decide +kernel
theorem d1_21 : decode prog_12_method_15_code 21 = .ok (.ishl, 1) := by decide +kernel
theorem d1_22 : decode prog_12_method_15_code 22 = .ok (.ior, 1) := by decide +kernel
theorem d1_23 : decode prog_12_method_15_code 23 = .ok (.aload_n 0, 1) := by decide +kernel
theorem d1_24 : decode prog_12_method_15_code 24 = .ok (.iload_n 1, 1) := by decide +kernel
theorem d1_25 : decode prog_12_method_15_code 25 = .ok (.iconst 2, 1) := by decide +kernel
theorem d1_26 : decode prog_12_method_15_code 26 = .ok (.iadd, 1) := by decide +kernel
theorem d1_27 : decode prog_12_method_15_code 27 = .ok (.baload, 1) := by decide +kernel
theorem d1_28 : decode prog_12_method_15_code 28 = .ok (.sipush 255, 3) := by decide +kernel
theorem d1_31 : decode prog_12_method_15_code 31 = .ok (.iand, 1) := by decide +kernel
theorem d1_32 : decode prog_12_method_15_code 32 = .ok (.bipush 8, 2) := by decide +kernel
theorem d1_34 : decode prog_12_method_15_code 34 = .ok (.ishl, 1) := by decide +kernel
theorem d1_35 : decode prog_12_method_15_code 35 = .ok (.ior, 1) := by decide +kernel
theorem d1_36 : decode prog_12_method_15_code 36 = .ok (.aload_n 0, 1) := by decide +kernel
theorem d1_37 : decode prog_12_method_15_code 37 = .ok (.iload_n 1, 1) := by decide +kernel
theorem d1_38 : decode prog_12_method_15_code 38 = .ok (.iconst 3, 1) := by decide +kernel
theorem d1_39 : decode prog_12_method_15_code 39 = .ok (.iadd, 1) := by decide +kernel
theorem d1_40 : decode prog_12_method_15_code 40 = .ok (.baload, 1) := by decide +kernel
theorem d1_41 : decode prog_12_method_15_code 41 = .ok (.sipush 255, 3) := by decide +kernel
theorem d1_44 : decode prog_12_method_15_code 44 = .ok (.iand, 1) := by decide +kernel
theorem d1_45 : decode prog_12_method_15_code 45 = .ok (.ior, 1) := by decide +kernel
theorem d1_46 : decode prog_12_method_15_code 46 = .ok (.ireturn, 1) := by decide +kernel
theorem pn_1 : plainName "com/example/rila/rila/store/StoreKeys" = true := by first | (simp [plainName, overriddenIn]; done) | decide +kernel
theorem pd_1 : parseMethodDescriptor "([BI)I" = some ⟨[(.array .byte), .int], some .int⟩ := by decide +kernel
def f1 (p1 : Int32) (f : Nat → Int32) (i : Nat) : Int32 := ((((((f i) &&& (255 : Int32)) <<< ((24 : Int32) &&& 31)) ||| (((f (i + 1)) &&& (255 : Int32)) <<< ((16 : Int32) &&& 31))) ||| (((f (i + 2)) &&& (255 : Int32)) <<< ((8 : Int32) &&& 31))) ||| ((f (i + 3)) &&& (255 : Int32)))
abbrev room1 : Room := { frames := 0, cells := 0, slots := 0, locals := 0 }
def Q1 (Z : State) (a0 : Addr) (p1 : Int32) (f : Nat → Int32) (i : Nat) (h0 : Heap) (vv : Option Value) (hh : Heap) : Prop := vv = some (.int (f1 p1 f i)) ∧ h0 = hh
theorem ef_1 (m : MethodId) (a0 : Addr) (p1 : Int32) : entryFrame m #[(.ref a0), (.int p1)] 2 = mkF m 0 #[.val (.ref a0), .val (.int p1)] [] := by first | (simp [entryFrame, mkF, argsToLocals, Value.category]; done) | rfl
set_option maxRecDepth 65536 in
set_option maxHeartbeats 40000000 in
theorem rm1 {l : Launch} {Z : State} {aw : Array Value} (hw : ∀ d ∈ tables_1, d.before aw Z = true) {n0 : Nat} (a0 : Addr) (p1 : Int32) (f : Nat → Int32) (i : Nat) (h0 : Heap) (A : Ints Z h0 a0 .byte 8 f) (hi : p1.toInt = (i : Int)) (hi4 : i ≤ 4) (hn0 : n0 ≤ h0.size) :
    Con l Z (⟨"com/example/rila/rila/store/StoreKeys", "readInt", "([BI)I"⟩ : MethodName) prog_12_method_15_code 2 (some .int) room1 n0 #[(.ref a0), (.int p1)] h0 (Q1 Z a0 p1 f i h0) := by
  refine Con.body (plainFor_of_name pn_1) hn0 (fun m => ef_1 m a0 p1) ?_
  intro p e s m below meth c T P
  refine G.aloadN P d1_0 rfl rfl (pc' := 1) rfl ?_
  refine G.iloadN P d1_1 rfl (pc' := 2) rfl ?_
  refine G.baload P A (i := i) hi (by omega) d1_2 (pc' := 3) rfl ?_
  generalize hx1 : (f i) = x1
  refine G.sipush P d1_3 (v := (255 : Int32)) rfl (pc' := 6) rfl ?_
  refine G.iand P d1_6 (pc' := 7) rfl ?_
  refine G.bipush P d1_7 (v := (24 : Int32)) rfl (pc' := 9) rfl ?_
  refine G.ishl P d1_9 (pc' := 10) rfl ?_
  refine G.aloadN P d1_10 rfl rfl (pc' := 11) rfl ?_
  refine G.iloadN P d1_11 rfl (pc' := 12) rfl ?_
  refine G.iconst P d1_12 (v := (1 : Int32)) rfl (pc' := 13) rfl ?_
  refine G.iadd P d1_13 (pc' := 14) rfl ?_
  refine G.baload P A (i := (i + 1)) (own_off p1 1 i 1 hi (by decide) hi4 (by decide)) (by omega) d1_14 (pc' := 15) rfl ?_
  generalize hx2 : (f (i + 1)) = x2
  refine G.sipush P d1_15 (v := (255 : Int32)) rfl (pc' := 18) rfl ?_
  refine G.iand P d1_18 (pc' := 19) rfl ?_
  refine G.bipush P d1_19 (v := (16 : Int32)) rfl (pc' := 21) rfl ?_
  refine G.ishl P d1_21 (pc' := 22) rfl ?_
  refine G.ior P d1_22 (pc' := 23) rfl ?_
  refine G.aloadN P d1_23 rfl rfl (pc' := 24) rfl ?_
  refine G.iloadN P d1_24 rfl (pc' := 25) rfl ?_
  refine G.iconst P d1_25 (v := (2 : Int32)) rfl (pc' := 26) rfl ?_
  refine G.iadd P d1_26 (pc' := 27) rfl ?_
  refine G.baload P A (i := (i + 2)) (own_off p1 2 i 2 hi (by decide) hi4 (by decide)) (by omega) d1_27 (pc' := 28) rfl ?_
  generalize hx3 : (f (i + 2)) = x3
  refine G.sipush P d1_28 (v := (255 : Int32)) rfl (pc' := 31) rfl ?_
  refine G.iand P d1_31 (pc' := 32) rfl ?_
  refine G.bipush P d1_32 (v := (8 : Int32)) rfl (pc' := 34) rfl ?_
  refine G.ishl P d1_34 (pc' := 35) rfl ?_
  refine G.ior P d1_35 (pc' := 36) rfl ?_
  refine G.aloadN P d1_36 rfl rfl (pc' := 37) rfl ?_
  refine G.iloadN P d1_37 rfl (pc' := 38) rfl ?_
  refine G.iconst P d1_38 (v := (3 : Int32)) rfl (pc' := 39) rfl ?_
  refine G.iadd P d1_39 (pc' := 40) rfl ?_
  refine G.baload P A (i := (i + 3)) (own_off p1 3 i 3 hi (by decide) hi4 (by decide)) (by omega) d1_40 (pc' := 41) rfl ?_
  generalize hx4 : (f (i + 3)) = x4
  refine G.sipush P d1_41 (v := (255 : Int32)) rfl (pc' := 44) rfl ?_
  refine G.iand P d1_44 (pc' := 45) rfl ?_
  refine G.ior P d1_45 (pc' := 46) rfl ?_
  subst hx1 hx2 hx3 hx4
  exact G.ireturn P rfl d1_46 (by decide) (by decide) ⟨by simp only [f1], rfl⟩
theorem own_upd (g : Nat → Int32) (k : Nat) (A B C D : Int32) : (oupd (oupd (oupd (oupd g k A) (k + 1) B) (k + 2) C) (k + 3) D) k = A ∧ (oupd (oupd (oupd (oupd g k A) (k + 1) B) (k + 2) C) (k + 3) D) (k + 1) = B ∧ (oupd (oupd (oupd (oupd g k A) (k + 1) B) (k + 2) C) (k + 3) D) (k + 2) = C ∧ (oupd (oupd (oupd (oupd g k A) (k + 1) B) (k + 2) C) (k + 3) D) (k + 3) = D := by
  simp [oupd]
theorem own_m (a : Int32) : (nar .byte (a.toInt8.toInt32)) &&& 255 = a &&& 255 := by
  show (a.toInt8.toInt32.toInt8.toInt32) &&& 255 = a &&& 255
  rw [Int8.toInt8_toInt32]
  have h1 := c_i2b a
  have h2 := c_mask a 255 8 (by decide) (by decide)
  have h3 := c_mask a.toInt8.toInt32 255 8 (by decide) (by decide)
  apply Int32.toInt_inj.mp
  omega
theorem own_i0 {S a : Int} (h : (S - a * 16777216) % 4294967296 = 0) : S % 16777216 = 0 := by omega
theorem own_i1 {S T b O : Int} (hS : S % 16777216 = 0) (hT : T = b * 65536) (o : (O - (S + T)) % 4294967296 = 0) : O % 65536 = 0 := by omega
theorem own_i2 {S T c O : Int} (hS : S % 65536 = 0) (hT : T = c * 256) (o : (O - (S + T)) % 4294967296 = 0) : O % 256 = 0 := by omega
theorem own_i3 {S T U O1 O2 O3 a b c d : Int} (s0 : (S - a * 16777216) % 4294967296 = 0) (e1 : T = b * 65536) (e2 : U = c * 256) (o1 : (O1 - (S + T)) % 4294967296 = 0) (o2 : (O2 - (O1 + U)) % 4294967296 = 0) (o3 : (O3 - (O2 + d)) % 4294967296 = 0) : (O3 - (a * 16777216 + b * 65536 + c * 256 + d)) % 4294967296 = 0 := by
  subst e1 e2
  have e : O3 - (a * 16777216 + b * 65536 + c * 256 + d) = (O3 - (O2 + d)) + (O2 - (O1 + c * 256)) + (O1 - (S + b * 65536)) + (S - a * 16777216) := by omega
  rw [e]
  generalize O3 - (O2 + d) = k1 at *
  generalize O2 - (O1 + c * 256) = k2 at *
  generalize O1 - (S + b * 65536) = k3 at *
  generalize S - a * 16777216 = k4 at *
  omega
theorem own_i4 {M1 M2 M3 A1 A2 A3 a b c d L : Int} (m1 : (M1 - a * 16777216) % 18446744073709551616 = 0) (m2 : (M2 - b * 65536) % 18446744073709551616 = 0) (m3 : (M3 - c * 256) % 18446744073709551616 = 0) (a1 : (A1 - (M1 + M2)) % 18446744073709551616 = 0) (a2 : (A2 - (A1 + M3)) % 18446744073709551616 = 0) (a3 : (A3 - (A2 + d)) % 18446744073709551616 = 0) (l : (L - A3) % 4294967296 = 0) : (L - (a * 16777216 + b * 65536 + c * 256 + d)) % 4294967296 = 0 := by
  have e : L - (a * 16777216 + b * 65536 + c * 256 + d) = (L - A3) + ((A3 - (A2 + d)) + (A2 - (A1 + M3)) + (A1 - (M1 + M2)) + (M1 - a * 16777216) + (M2 - b * 65536) + (M3 - c * 256)) := by omega
  rw [e]
  generalize L - A3 = k0 at *
  generalize A3 - (A2 + d) = k1 at *
  generalize A2 - (A1 + M3) = k2 at *
  generalize A1 - (M1 + M2) = k3 at *
  generalize M1 - a * 16777216 = k4 at *
  generalize M2 - b * 65536 = k5 at *
  generalize M3 - c * 256 = k6 at *
  omega
theorem own_i5 {x y s : Int} (hx : (x - s) % 4294967296 = 0) (hy : (y - s) % 4294967296 = 0) (rx : -2147483648 ≤ x ∧ x < 2147483648) (ry : -2147483648 ≤ y ∧ y < 2147483648) : x = y := by omega
theorem own_i6 {S b k : Int} (h : (S - b * k) % 4294967296 = 0) (h0 : 0 ≤ b * k) (h1 : b * k < 2147483648) (r : -2147483648 ≤ S ∧ S < 2147483648) : S = b * k := by
  generalize b * k = q at *
  omega
theorem own_s24 (a : Int32) : ((a <<< ((24 : Int32) &&& 31)).toInt - a.toInt * 16777216) % 4294967296 = 0 := c_ishl a 24 24 (by decide)
theorem own_s16 (b : Int32) (hb : 0 ≤ b.toInt ∧ b.toInt < 256) : (b <<< ((16 : Int32) &&& 31)).toInt = b.toInt * 65536 := own_i6 (c_ishl b 16 16 (by decide)) (by omega) (by omega) (rng32 _)
theorem own_s8 (c : Int32) (hc : 0 ≤ c.toInt ∧ c.toInt < 256) : (c <<< ((8 : Int32) &&& 31)).toInt = c.toInt * 256 := own_i6 (c_ishl c 8 8 (by decide)) (by omega) (by omega) (rng32 _)
theorem own_lm (a : Int32) (k : Int64) (K : Int) (hk : k.toInt = K) : ((a.toInt64 * k).toInt - a.toInt * K) % 18446744073709551616 = 0 := by
  have m := c_lmul a.toInt64 k
  rw [c_i2l, hk] at m
  exact m
theorem own_bits (a b c d : Int32) (ha : 0 ≤ a.toInt ∧ a.toInt < 256) (hb : 0 ≤ b.toInt ∧ b.toInt < 256) (hc : 0 ≤ c.toInt ∧ c.toInt < 256) (hd : 0 ≤ d.toInt ∧ d.toInt < 256) :
    (((a <<< ((24 : Int32) &&& 31)) ||| (b <<< ((16 : Int32) &&& 31))) ||| (c <<< ((8 : Int32) &&& 31))) ||| d = (((a.toInt64 * (16777216 : Int64) + b.toInt64 * (65536 : Int64)) + c.toInt64 * (256 : Int64)) + d.toInt64).toInt32 := by
  have s0 := own_s24 a
  have e1 := own_s16 b hb
  have e2 := own_s8 c hc
  generalize a <<< ((24 : Int32) &&& 31) = S at *
  generalize b <<< ((16 : Int32) &&& 31) = T at *
  generalize c <<< ((8 : Int32) &&& 31) = U at *
  have o1 := c_or S T 24 (by decide) 16777216 (by decide) (own_i0 s0) (by omega) (by omega)
  have q1 := own_i1 (own_i0 s0) e1 o1
  have o2 := c_or (S ||| T) U 16 (by decide) 65536 (by decide) q1 (by omega) (by omega)
  have q2 := own_i2 q1 e2 o2
  have o3 := c_or ((S ||| T) ||| U) d 8 (by decide) 256 (by decide) q2 hd.1 hd.2
  have w1 := own_i3 s0 e1 e2 o1 o2 o3
  have m1 := own_lm a 16777216 16777216 (by decide)
  have m2 := own_lm b 65536 65536 (by decide)
  have m3 := own_lm c 256 256 (by decide)
  have a1 := c_ladd (a.toInt64 * (16777216 : Int64)) (b.toInt64 * (65536 : Int64))
  have a2 := c_ladd (a.toInt64 * (16777216 : Int64) + b.toInt64 * (65536 : Int64)) (c.toInt64 * (256 : Int64))
  have a3 := c_ladd ((a.toInt64 * (16777216 : Int64) + b.toInt64 * (65536 : Int64)) + c.toInt64 * (256 : Int64)) d.toInt64
  rw [c_i2l] at a3
  have l1 := c_l2i (((a.toInt64 * (16777216 : Int64) + b.toInt64 * (65536 : Int64)) + c.toInt64 * (256 : Int64)) + d.toInt64)
  have w2 := own_i4 m1 m2 m3 a1 a2 a3 l1
  exact Int32.toInt_inj.mp (own_i5 w1 w2 (rng32 _) (rng32 _))
theorem own_read (g : Nat → Int32) (j : Int32) (k : Nat) (a b c d : Int32) : f1 j (oupd (oupd (oupd (oupd g k (nar .byte (a.toInt8.toInt32))) (k + 1) (nar .byte (b.toInt8.toInt32))) (k + 2) (nar .byte (c.toInt8.toInt32))) (k + 3) (nar .byte (d.toInt8.toInt32))) k = (((((a &&& 255).toInt64 * (16777216 : Int64)) + ((b &&& 255).toInt64 * (65536 : Int64))) + ((c &&& 255).toInt64 * (256 : Int64))) + (d &&& 255).toInt64).toInt32 := by
  obtain ⟨e0, e1, e2, e3⟩ := own_upd g k (nar .byte (a.toInt8.toInt32)) (nar .byte (b.toInt8.toInt32)) (nar .byte (c.toInt8.toInt32)) (nar .byte (d.toInt8.toInt32))
  simp only [f1, e0, e1, e2, e3, own_m]
  have ma := c_mask a 255 8 (by decide) (by decide)
  have mb := c_mask b 255 8 (by decide) (by decide)
  have mc := c_mask c 255 8 (by decide) (by decide)
  have md := c_mask d 255 8 (by decide) (by decide)
  exact own_bits _ _ _ _ (by omega) (by omega) (by omega) (by omega)
theorem pn_0 : plainName "com/example/rila/rila/store/StoreKeysReadIntPinLaw" = true := by first | (simp [plainName, overriddenIn]; done) | decide +kernel
theorem pd_0 : parseMethodDescriptor "(IIIIII)Z" = some ⟨[.int, .int, .int, .int, .int, .int], some .boolean⟩ := by decide +kernel
def Q0 (Z : State) (p0 : Int32) (p1 : Int32) (p2 : Int32) (p3 : Int32) (p4 : Int32) (p5 : Int32) (h0 : Heap) (vv : Option Value) (hh : Heap) : Prop := vv = some (.int 1) ∧ True
theorem ef_0 (m : MethodId) (p0 : Int32) (p1 : Int32) (p2 : Int32) (p3 : Int32) (p4 : Int32) (p5 : Int32) : entryFrame m #[(.int p0), (.int p1), (.int p2), (.int p3), (.int p4), (.int p5)] maxLocals = mkF m 0 #[.val (.int p0), .val (.int p1), .val (.int p2), .val (.int p3), .val (.int p4), .val (.int p5), .unset, .unset, .unset, .unset, .unset] [] := by first | (simp [entryFrame, mkF, argsToLocals, Value.category, maxLocals]; done) | rfl
set_option maxRecDepth 65536 in
set_option maxHeartbeats 40000000 in
theorem rm0 {l : Launch} {Z : State} {aw : Array Value} (hw : ∀ d ∈ tables_1, d.before aw Z = true) {n0 : Nat} (p0 : Int32) (p1 : Int32) (p2 : Int32) (p3 : Int32) (p4 : Int32) (p5 : Int32) (h0 : Heap) (hn0 : n0 ≤ h0.size) :
    Con l Z x code maxLocals ret room_1 n0 #[(.int p0), (.int p1), (.int p2), (.int p3), (.int p4), (.int p5)] h0 (Q0 Z p0 p1 p2 p3 p4 p5 h0) := by
  refine Con.body (plainFor_of_name pn_0) hn0 (fun m => ef_0 m p0 p1 p2 p3 p4 p5) ?_
  intro p e s m below meth c T P
  refine G.iload P at_0 rfl (pc' := 2) rfl ?_
  refine G.ldcI P (wd hw (i := 0) rfl) at_2 (pc' := 4) rfl ?_
  refine G.iand P at_4 (pc' := 5) rfl ?_
  refine G.iconst P at_5 (v := (5 : Int32)) rfl (pc' := 6) rfl ?_
  refine G.irem P at_6 (by decide) (pc' := 7) rfl ?_
  obtain ⟨x5, hx5⟩ : ∃ z : Int32, ((p5 &&& (2147483647 : Int32)) % (5 : Int32)) = z := ⟨_, rfl⟩
  refine G.istore P at_7 hx5 (L' := #[.val (.int p0), .val (.int p1), .val (.int p2), .val (.int p3), .val (.int p4), .val (.int p5), .val (.int x5), .unset, .unset, .unset, .unset]) rfl (pc' := 9) rfl ?_
  refine G.bipush P at_9 (v := (8 : Int32)) rfl (pc' := 11) rfl ?_
  refine G.newarray P (wd hw (i := 1) rfl) rfl (N := 8) (by decide) (cap := 8) (Nat.le_refl _) (by decide) at_11 (cells' := 1) rfl (slots' := 8) rfl (by decide) (by decide) (pc' := 13) rfl ?_
  intro T h6 b6 hb6 g_b6 P E6 A6
  replace A6 : Ints Z h6 b6 .byte 8 (fun _ => 0) := A6
  replace A6 := Ints.congr (g := (lst [(0 : Int32), (0 : Int32), (0 : Int32), (0 : Int32), (0 : Int32), (0 : Int32), (0 : Int32), (0 : Int32)])) A6 (fun i hi => by match i, hi with | 0, _ => rfl | 1, _ => rfl | 2, _ => rfl | 3, _ => rfl | 4, _ => rfl | 5, _ => rfl | 6, _ => rfl | 7, _ => rfl | k + 8, h => exact absurd h (by omega))
  refine G.astore P at_13 rfl (L' := #[.val (.int p0), .val (.int p1), .val (.int p2), .val (.int p3), .val (.int p4), .val (.int p5), .val (.int x5), .val (.ref b6), .unset, .unset, .unset]) rfl (pc' := 15) rfl ?_
  refine G.aload P at_15 rfl rfl (pc' := 17) rfl ?_
  refine G.iconst P at_17 (v := (0 : Int32)) rfl (pc' := 18) rfl ?_
  refine G.iload P at_18 rfl (pc' := 20) rfl ?_
  refine G.i2b P at_20 (pc' := 21) rfl ?_
  refine G.bastore P A6 (i := 0) (by decide) (by decide) g_b6 at_21 (pc' := 22) rfl ?_
  intro T h8 P W7
  replace A6 := A6.same W7
  obtain ⟨x10, hx10⟩ : ∃ z : Int32, (nar .byte (p4.toInt8.toInt32)) = z := ⟨_, rfl⟩
  rw [hx10] at A6
  replace A6 := Ints.congr (g := (lst [x10, (0 : Int32), (0 : Int32), (0 : Int32), (0 : Int32), (0 : Int32), (0 : Int32), (0 : Int32)])) A6 (fun i hi => by match i, hi with | 0, _ => rfl | 1, _ => rfl | 2, _ => rfl | 3, _ => rfl | 4, _ => rfl | 5, _ => rfl | 6, _ => rfl | 7, _ => rfl | k + 8, h => exact absurd h (by omega))
  refine G.aload P at_22 rfl rfl (pc' := 24) rfl ?_
  refine G.iconst P at_24 (v := (1 : Int32)) rfl (pc' := 25) rfl ?_
  refine G.iload P at_25 rfl (pc' := 27) rfl ?_
  refine G.iconst P at_27 (v := (3 : Int32)) rfl (pc' := 28) rfl ?_
  refine G.iushr P at_28 (pc' := 29) rfl ?_
  refine G.i2b P at_29 (pc' := 30) rfl ?_
  refine G.bastore P A6 (i := 1) (by decide) (by decide) g_b6 at_30 (pc' := 31) rfl ?_
  intro T h12 P W11
  replace A6 := A6.same W11
  obtain ⟨x14, hx14⟩ : ∃ z : Int32, (nar .byte (((p4.toUInt32 >>> ((3 : Int32) &&& 31).toUInt32).toInt32).toInt8.toInt32)) = z := ⟨_, rfl⟩
  rw [hx14] at A6
  replace A6 := Ints.congr (g := (lst [x10, x14, (0 : Int32), (0 : Int32), (0 : Int32), (0 : Int32), (0 : Int32), (0 : Int32)])) A6 (fun i hi => by match i, hi with | 0, _ => rfl | 1, _ => rfl | 2, _ => rfl | 3, _ => rfl | 4, _ => rfl | 5, _ => rfl | 6, _ => rfl | 7, _ => rfl | k + 8, h => exact absurd h (by omega))
  refine G.aload P at_31 rfl rfl (pc' := 33) rfl ?_
  refine G.iconst P at_33 (v := (2 : Int32)) rfl (pc' := 34) rfl ?_
  refine G.iload P at_34 rfl (pc' := 36) rfl ?_
  refine G.bipush P at_36 (v := (7 : Int32)) rfl (pc' := 38) rfl ?_
  refine G.iushr P at_38 (pc' := 39) rfl ?_
  refine G.i2b P at_39 (pc' := 40) rfl ?_
  refine G.bastore P A6 (i := 2) (by decide) (by decide) g_b6 at_40 (pc' := 41) rfl ?_
  intro T h16 P W15
  replace A6 := A6.same W15
  obtain ⟨x18, hx18⟩ : ∃ z : Int32, (nar .byte (((p4.toUInt32 >>> ((7 : Int32) &&& 31).toUInt32).toInt32).toInt8.toInt32)) = z := ⟨_, rfl⟩
  rw [hx18] at A6
  replace A6 := Ints.congr (g := (lst [x10, x14, x18, (0 : Int32), (0 : Int32), (0 : Int32), (0 : Int32), (0 : Int32)])) A6 (fun i hi => by match i, hi with | 0, _ => rfl | 1, _ => rfl | 2, _ => rfl | 3, _ => rfl | 4, _ => rfl | 5, _ => rfl | 6, _ => rfl | 7, _ => rfl | k + 8, h => exact absurd h (by omega))
  refine G.aload P at_41 rfl rfl (pc' := 43) rfl ?_
  refine G.iconst P at_43 (v := (3 : Int32)) rfl (pc' := 44) rfl ?_
  refine G.iload P at_44 rfl (pc' := 46) rfl ?_
  refine G.bipush P at_46 (v := (11 : Int32)) rfl (pc' := 48) rfl ?_
  refine G.iushr P at_48 (pc' := 49) rfl ?_
  refine G.i2b P at_49 (pc' := 50) rfl ?_
  refine G.bastore P A6 (i := 3) (by decide) (by decide) g_b6 at_50 (pc' := 51) rfl ?_
  intro T h20 P W19
  replace A6 := A6.same W19
  obtain ⟨x22, hx22⟩ : ∃ z : Int32, (nar .byte (((p4.toUInt32 >>> ((11 : Int32) &&& 31).toUInt32).toInt32).toInt8.toInt32)) = z := ⟨_, rfl⟩
  rw [hx22] at A6
  replace A6 := Ints.congr (g := (lst [x10, x14, x18, x22, (0 : Int32), (0 : Int32), (0 : Int32), (0 : Int32)])) A6 (fun i hi => by match i, hi with | 0, _ => rfl | 1, _ => rfl | 2, _ => rfl | 3, _ => rfl | 4, _ => rfl | 5, _ => rfl | 6, _ => rfl | 7, _ => rfl | k + 8, h => exact absurd h (by omega))
  refine G.aload P at_51 rfl rfl (pc' := 53) rfl ?_
  refine G.iconst P at_53 (v := (4 : Int32)) rfl (pc' := 54) rfl ?_
  refine G.iload P at_54 rfl (pc' := 56) rfl ?_
  refine G.bipush P at_56 (v := (15 : Int32)) rfl (pc' := 58) rfl ?_
  refine G.iushr P at_58 (pc' := 59) rfl ?_
  refine G.i2b P at_59 (pc' := 60) rfl ?_
  refine G.bastore P A6 (i := 4) (by decide) (by decide) g_b6 at_60 (pc' := 61) rfl ?_
  intro T h24 P W23
  replace A6 := A6.same W23
  obtain ⟨x26, hx26⟩ : ∃ z : Int32, (nar .byte (((p4.toUInt32 >>> ((15 : Int32) &&& 31).toUInt32).toInt32).toInt8.toInt32)) = z := ⟨_, rfl⟩
  rw [hx26] at A6
  replace A6 := Ints.congr (g := (lst [x10, x14, x18, x22, x26, (0 : Int32), (0 : Int32), (0 : Int32)])) A6 (fun i hi => by match i, hi with | 0, _ => rfl | 1, _ => rfl | 2, _ => rfl | 3, _ => rfl | 4, _ => rfl | 5, _ => rfl | 6, _ => rfl | 7, _ => rfl | k + 8, h => exact absurd h (by omega))
  refine G.aload P at_61 rfl rfl (pc' := 63) rfl ?_
  refine G.iconst P at_63 (v := (5 : Int32)) rfl (pc' := 64) rfl ?_
  refine G.iload P at_64 rfl (pc' := 66) rfl ?_
  refine G.bipush P at_66 (v := (19 : Int32)) rfl (pc' := 68) rfl ?_
  refine G.iushr P at_68 (pc' := 69) rfl ?_
  refine G.i2b P at_69 (pc' := 70) rfl ?_
  refine G.bastore P A6 (i := 5) (by decide) (by decide) g_b6 at_70 (pc' := 71) rfl ?_
  intro T h28 P W27
  replace A6 := A6.same W27
  obtain ⟨x30, hx30⟩ : ∃ z : Int32, (nar .byte (((p4.toUInt32 >>> ((19 : Int32) &&& 31).toUInt32).toInt32).toInt8.toInt32)) = z := ⟨_, rfl⟩
  rw [hx30] at A6
  replace A6 := Ints.congr (g := (lst [x10, x14, x18, x22, x26, x30, (0 : Int32), (0 : Int32)])) A6 (fun i hi => by match i, hi with | 0, _ => rfl | 1, _ => rfl | 2, _ => rfl | 3, _ => rfl | 4, _ => rfl | 5, _ => rfl | 6, _ => rfl | 7, _ => rfl | k + 8, h => exact absurd h (by omega))
  refine G.aload P at_71 rfl rfl (pc' := 73) rfl ?_
  refine G.bipush P at_73 (v := (6 : Int32)) rfl (pc' := 75) rfl ?_
  refine G.iload P at_75 rfl (pc' := 77) rfl ?_
  refine G.bipush P at_77 (v := (23 : Int32)) rfl (pc' := 79) rfl ?_
  refine G.iushr P at_79 (pc' := 80) rfl ?_
  refine G.i2b P at_80 (pc' := 81) rfl ?_
  refine G.bastore P A6 (i := 6) (by decide) (by decide) g_b6 at_81 (pc' := 82) rfl ?_
  intro T h32 P W31
  replace A6 := A6.same W31
  obtain ⟨x34, hx34⟩ : ∃ z : Int32, (nar .byte (((p4.toUInt32 >>> ((23 : Int32) &&& 31).toUInt32).toInt32).toInt8.toInt32)) = z := ⟨_, rfl⟩
  rw [hx34] at A6
  replace A6 := Ints.congr (g := (lst [x10, x14, x18, x22, x26, x30, x34, (0 : Int32)])) A6 (fun i hi => by match i, hi with | 0, _ => rfl | 1, _ => rfl | 2, _ => rfl | 3, _ => rfl | 4, _ => rfl | 5, _ => rfl | 6, _ => rfl | 7, _ => rfl | k + 8, h => exact absurd h (by omega))
  refine G.aload P at_82 rfl rfl (pc' := 84) rfl ?_
  refine G.bipush P at_84 (v := (7 : Int32)) rfl (pc' := 86) rfl ?_
  refine G.iload P at_86 rfl (pc' := 88) rfl ?_
  refine G.bipush P at_88 (v := (24 : Int32)) rfl (pc' := 90) rfl ?_
  refine G.iushr P at_90 (pc' := 91) rfl ?_
  refine G.i2b P at_91 (pc' := 92) rfl ?_
  refine G.bastore P A6 (i := 7) (by decide) (by decide) g_b6 at_92 (pc' := 93) rfl ?_
  intro T h36 P W35
  replace A6 := A6.same W35
  obtain ⟨x38, hx38⟩ : ∃ z : Int32, (nar .byte (((p4.toUInt32 >>> ((24 : Int32) &&& 31).toUInt32).toInt32).toInt8.toInt32)) = z := ⟨_, rfl⟩
  rw [hx38] at A6
  replace A6 := Ints.congr (g := (lst [x10, x14, x18, x22, x26, x30, x34, x38])) A6 (fun i hi => by match i, hi with | 0, _ => rfl | 1, _ => rfl | 2, _ => rfl | 3, _ => rfl | 4, _ => rfl | 5, _ => rfl | 6, _ => rfl | 7, _ => rfl | k + 8, h => exact absurd h (by omega))
  refine G.aload P at_93 rfl rfl (pc' := 95) rfl ?_
  refine G.iload P at_95 rfl (pc' := 97) rfl ?_
  refine G.iloadN P at_97 rfl (pc' := 98) rfl ?_
  refine G.i2b P at_98 (pc' := 99) rfl ?_
  refine G.bastore P A6 (i := (x5).toInt.toNat) (own_ix _ _ hx5).1 (by have q := (own_ix _ _ hx5).2; omega) g_b6 at_99 (pc' := 100) rfl ?_
  intro T h40 P W39
  replace A6 := A6.same W39
  obtain ⟨F41, hF41⟩ : ∃ q : Nat → Int32, (oupd (lst [x10, x14, x18, x22, x26, x30, x34, x38]) ((x5).toInt.toNat) (nar .byte (p0.toInt8.toInt32))) = q := ⟨_, rfl⟩
  rw [hF41] at A6
  refine G.aload P at_100 rfl rfl (pc' := 102) rfl ?_
  refine G.iload P at_102 rfl (pc' := 104) rfl ?_
  refine G.iconst P at_104 (v := (1 : Int32)) rfl (pc' := 105) rfl ?_
  refine G.iadd P at_105 (pc' := 106) rfl ?_
  refine G.iloadN P at_106 rfl (pc' := 107) rfl ?_
  refine G.i2b P at_107 (pc' := 108) rfl ?_
  refine G.bastore P A6 (i := ((x5).toInt.toNat + 1)) (own_off x5 1 _ 1 (own_ix _ _ hx5).1 (by decide) (own_ix _ _ hx5).2 (by decide)) (by have q := (own_ix _ _ hx5).2; omega) g_b6 at_108 (pc' := 109) rfl ?_
  intro T h43 P W42
  replace A6 := A6.same W42
  obtain ⟨F44, hF44⟩ : ∃ q : Nat → Int32, (oupd F41 ((x5).toInt.toNat + 1) (nar .byte (p1.toInt8.toInt32))) = q := ⟨_, rfl⟩
  rw [hF44] at A6
  refine G.aload P at_109 rfl rfl (pc' := 111) rfl ?_
  refine G.iload P at_111 rfl (pc' := 113) rfl ?_
  refine G.iconst P at_113 (v := (2 : Int32)) rfl (pc' := 114) rfl ?_
  refine G.iadd P at_114 (pc' := 115) rfl ?_
  refine G.iloadN P at_115 rfl (pc' := 116) rfl ?_
  refine G.i2b P at_116 (pc' := 117) rfl ?_
  refine G.bastore P A6 (i := ((x5).toInt.toNat + 2)) (own_off x5 2 _ 2 (own_ix _ _ hx5).1 (by decide) (own_ix _ _ hx5).2 (by decide)) (by have q := (own_ix _ _ hx5).2; omega) g_b6 at_117 (pc' := 118) rfl ?_
  intro T h46 P W45
  replace A6 := A6.same W45
  obtain ⟨F47, hF47⟩ : ∃ q : Nat → Int32, (oupd F44 ((x5).toInt.toNat + 2) (nar .byte (p2.toInt8.toInt32))) = q := ⟨_, rfl⟩
  rw [hF47] at A6
  refine G.aload P at_118 rfl rfl (pc' := 120) rfl ?_
  refine G.iload P at_120 rfl (pc' := 122) rfl ?_
  refine G.iconst P at_122 (v := (3 : Int32)) rfl (pc' := 123) rfl ?_
  refine G.iadd P at_123 (pc' := 124) rfl ?_
  refine G.iloadN P at_124 rfl (pc' := 125) rfl ?_
  refine G.i2b P at_125 (pc' := 126) rfl ?_
  refine G.bastore P A6 (i := ((x5).toInt.toNat + 3)) (own_off x5 3 _ 3 (own_ix _ _ hx5).1 (by decide) (own_ix _ _ hx5).2 (by decide)) (by have q := (own_ix _ _ hx5).2; omega) g_b6 at_126 (pc' := 127) rfl ?_
  intro T h49 P W48
  replace A6 := A6.same W48
  obtain ⟨F50, hF50⟩ : ∃ q : Nat → Int32, (oupd F47 ((x5).toInt.toNat + 3) (nar .byte (p3.toInt8.toInt32))) = q := ⟨_, rfl⟩
  rw [hF50] at A6
  refine G.iloadN P at_127 rfl (pc' := 128) rfl ?_
  refine G.sipush P at_128 (v := (255 : Int32)) rfl (pc' := 131) rfl ?_
  refine G.iand P at_131 (pc' := 132) rfl ?_
  refine G.i2l P at_132 (pc' := 133) rfl ?_
  refine G.ldc2 P (wd hw (i := 2) rfl) at_133 (pc' := 136) rfl ?_
  refine G.lmul P at_136 (pc' := 137) rfl ?_
  refine G.iloadN P at_137 rfl (pc' := 138) rfl ?_
  refine G.sipush P at_138 (v := (255 : Int32)) rfl (pc' := 141) rfl ?_
  refine G.iand P at_141 (pc' := 142) rfl ?_
  refine G.i2l P at_142 (pc' := 143) rfl ?_
  refine G.ldc2 P (wd hw (i := 3) rfl) at_143 (pc' := 146) rfl ?_
  refine G.lmul P at_146 (pc' := 147) rfl ?_
  refine G.ladd P at_147 (pc' := 148) rfl ?_
  refine G.iloadN P at_148 rfl (pc' := 149) rfl ?_
  refine G.sipush P at_149 (v := (255 : Int32)) rfl (pc' := 152) rfl ?_
  refine G.iand P at_152 (pc' := 153) rfl ?_
  refine G.i2l P at_153 (pc' := 154) rfl ?_
  refine G.ldc2 P (wd hw (i := 4) rfl) at_154 (pc' := 157) rfl ?_
  refine G.lmul P at_157 (pc' := 158) rfl ?_
  refine G.ladd P at_158 (pc' := 159) rfl ?_
  refine G.iloadN P at_159 rfl (pc' := 160) rfl ?_
  refine G.sipush P at_160 (v := (255 : Int32)) rfl (pc' := 163) rfl ?_
  refine G.iand P at_163 (pc' := 164) rfl ?_
  refine G.i2l P at_164 (pc' := 165) rfl ?_
  refine G.ladd P at_165 (pc' := 166) rfl ?_
  obtain ⟨x51, hx51⟩ : ∃ z : Int64, ((((((p0 &&& (255 : Int32)).toInt64) * (16777216 : Int64)) + (((p1 &&& (255 : Int32)).toInt64) * (65536 : Int64))) + (((p2 &&& (255 : Int32)).toInt64) * (256 : Int64))) + ((p3 &&& (255 : Int32)).toInt64)) = z := ⟨_, rfl⟩
  refine G.lstore P at_166 hx51 (L' := #[.val (.int p0), .val (.int p1), .val (.int p2), .val (.int p3), .val (.int p4), .val (.int p5), .val (.int x5), .val (.ref b6), .val (.long x51), .second, .unset]) rfl (pc' := 168) rfl ?_
  refine G.aload P at_168 rfl rfl (pc' := 170) rfl ?_
  refine G.iload P at_170 rfl (pc' := 172) rfl ?_
  refine G.callS P (wd hw (i := 5) rfl) (wd hw (i := 6) rfl) (wd hw (i := 7) rfl) (wd hw (i := 8) rfl) (by decide) (argsL := [(.ref b6), (.int x5)]) (rm1 hw b6 x5 F50 ((x5).toInt.toNat) h49 A6 (own_ix _ _ hx5).1 (own_ix _ _ hx5).2 P.sz) (by decide) (by decide) (cells' := 1) rfl (slots' := 8) rfl (by decide) (by decide) (lenOf pd_1 rfl) rfl (rest := []) rfl (W := 0) (Nat.le_of_eq rfl) at_172 (pc' := 175) rfl ?_
  rintro T _ _ P ⟨rfl, rfl⟩
  show Goes p e below s n0 room_1.cells room_1.slots (Q0 Z p0 p1 p2 p3 p4 p5 h0) (T.setTop (mkF m 175 #[.val (.int p0), .val (.int p1), .val (.int p2), .val (.int p3), .val (.int p4), .val (.int p5), .val (.int x5), .val (.ref b6), .val (.long x51), .second, .unset] [(.int (f1 x5 F50 ((x5).toInt.toNat)))]))
  generalize hr52 : (f1 x5 F50 ((x5).toInt.toNat)) = r52
  refine G.istore P at_175 rfl (L' := #[.val (.int p0), .val (.int p1), .val (.int p2), .val (.int p3), .val (.int p4), .val (.int p5), .val (.int x5), .val (.ref b6), .val (.long x51), .second, .val (.int r52)]) rfl (pc' := 177) rfl ?_
  refine G.iload P at_177 rfl (pc' := 179) rfl ?_
  refine G.lload P at_179 rfl (pc' := 181) rfl ?_
  refine G.l2i P at_181 (pc' := 182) rfl ?_
  have J190_182 : ∀ (z53 : Int32), z53 = (if r52 = (x51.toInt32) then (1 : Int32) else (0 : Int32)) → Goes p e below s n0 room_1.cells room_1.slots (Q0 Z p0 p1 p2 p3 p4 p5 h0) (T.setTop (mkF m 190 #[.val (.int p0), .val (.int p1), .val (.int p2), .val (.int p3), .val (.int p4), .val (.int p5), .val (.int x5), .val (.ref b6), .val (.long x51), .second, .val (.int r52)] [(.int z53)])) := by
    intro z53 hz53
    have e1 : r52 = x51.toInt32 := by rw [← hr52, ← hx51]; subst hF41 hF44 hF47 hF50; exact own_read _ _ _ _ _ _ _
    exact G.ireturnN P (t := .boolean) rfl (by simp) rfl at_190 (by decide) (by decide) ⟨congrArg (fun z => some (Value.int z)) (by rw [hz53, if_pos e1]; rfl), trivial⟩
  refine G.icmp_ne P at_182 (by decide) (pcY := 189) (by decide) (pcN := 185) rfl (fun c182 => ?_) (fun c182 => ?_)
  · refine G.iconst P at_189 (v := (0 : Int32)) rfl (pc' := 190) rfl ?_
    exact J190_182 _ (by simp only [if_neg c182])
  · refine G.iconst P at_185 (v := (1 : Int32)) rfl (pc' := 186) rfl ?_
    refine G.goto P at_186 (by decide) (pc' := 190) (by decide) ?_
    exact J190_182 _ (by simp only [if_pos c182])
set_option maxRecDepth 65536 in
set_option maxHeartbeats 40000000 in
theorem comes_1 {Post : Tables → Env → Array Value → State → Outcome → State → Prop} (hpost : ∀ tb e args s v u, (limb_1_1.after args s (.returned v) u = true ∧ limb_1_2.after args s (.returned v) u = true) → FrameEnd s (.returned v) u (Jvm.fieldLocs frame_1_writes args s ++ Jvm.arrayLocs frame_1_arrays args s ++ Jvm.staticLocs frame_1_statics s) 16 128 → Post tb e args s (.returned v) u) :
    ArmFor flags0 classFile x code maxLocals ret World_1 tables_1 room_1 Calls_1 rest_1 Pre_1 Post := by
  intro l hfl _ _ p e ha hc hk s m args below hf hA hF happ hP
  obtain ⟨hcalls, hrest, hpre⟩ := hP
  obtain ⟨-, -, -, hnamed, -, -, -, hat⟩ := (Spec.applies_iff hf).mp happ
  obtain ⟨hg, hn⟩ := and_e (Cond.before_iff.mp (show (Jvm.Cond.and given_1 narrow_1).before args s = true from hpre))
  obtain ⟨hcount, g0⟩ := and_e hg
  obtain ⟨v0, g1⟩ := and_e g0
  obtain ⟨v1, g2⟩ := and_e g1
  obtain ⟨v2, g3⟩ := and_e g2
  obtain ⟨v3, g4⟩ := and_e g3
  obtain ⟨v4, g5⟩ := and_e g4
  have v5 := g5
  obtain ⟨w0, w1, w2, w3, w4, w5, rfl⟩ : ∃ w0 w1 w2 w3 w4 w5 : Value, args = #[w0, w1, w2, w3, w4, w5] := by
    have hs : args.size = 6 := by simpa [Cond.value, given_1] using hcount
    obtain ⟨L⟩ := args
    match L, hs with
    | [w0, w1, w2, w3, w4, w5], _ => exact ⟨w0, w1, w2, w3, w4, w5, rfl⟩
  have hw := fun d (hd : d ∈ tables_1) => atoms_spec (ws := Jvm.Cond.code x code maxLocals ret :: tables_1) hat d (List.mem_cons_of_mem _ hd)
  obtain ⟨i0, ei0⟩ := is_v v0
  obtain rfl : w0 = (.int i0) := Option.some.inj ei0
  obtain ⟨i1, ei1⟩ := is_v v1
  obtain rfl : w1 = (.int i1) := Option.some.inj ei1
  obtain ⟨i2, ei2⟩ := is_v v2
  obtain rfl : w2 = (.int i2) := Option.some.inj ei2
  obtain ⟨i3, ei3⟩ := is_v v3
  obtain rfl : w3 = (.int i3) := Option.some.inj ei3
  obtain ⟨i4, ei4⟩ := is_v v4
  obtain rfl : w4 = (.int i4) := Option.some.inj ei4
  obtain ⟨i5, ei5⟩ := is_v v5
  obtain rfl : w5 = (.int i5) := Option.some.inj ei5
  obtain ⟨n, o, h1, h2, h3, v, L, rfl, ⟨hQ, N⟩, hq⟩ := rm0 hw i0 i1 i2 i3 i4 i5 s.heap (Nat.le_refl s.heap.size) tables_1 p e ha hc hk s m _ below hf ((Spec.applies_iff_loose hf).mp happ).1 ⟨rfl, State.Warmed39.refl s, rfl⟩ trivial
  obtain rfl : v = some (.int 1) := hQ.1
  refine ⟨n, _, h1, h2, h3, hpost _ _ _ _ _ _ ⟨Cond.after_iff.mpr rfl, Cond.after_iff.mpr (eq_i res_at (Term.int_eval (1)) rfl)⟩ ⟨hq.1, hq.2.1, (hq.2.2.sift fun y hy => Or.inr (N y hy)).mono (by decide) (by decide)⟩⟩
theorem main_1_1 : Claimed_1_1 := comes_1 fun _ _ _ _ _ _ h hF => ⟨h.1, hF⟩
theorem main_1_2 : Claimed_1_2 := comes_1 fun _ _ _ _ _ _ h hF => ⟨h.2, hF⟩
end Jvm.Pilot.@@N@@
namespace Jvm.Pilot.@@N@@
open Jvm Jvm.ClassFile Sem Op Lib Jvm.Free Jvm.Stand Jvm.Pilot.@@N@@.Jvm.D
/-! MADE BY PROGRAM (witnessworld.py) out of the Statement's table words and the real class files: 9 classes; the members and pool entries that the words name. The judged class is class 1, her method 1. -/
namespace start1
open Jvm.ClassFile
def u (s : String) : CpInfo := .utf8 (stringToUtf16 s)
/-- a pool by its gaps: so many unusable entries, then the entry; so many at the end -/
def gap : Nat → List CpInfo → List CpInfo
  | 0, r => r
  | n + 1, r => .unusable :: gap n r
def poolList (es : List (Nat × CpInfo)) (last : Nat) : List CpInfo := es.foldr (fun e r => gap e.1 (e.2 :: r)) (gap last [])
def pool (es : List (Nat × CpInfo)) (last : Nat) : Array CpInfo := ⟨poolList es last⟩
def fileOf (pool : Array CpInfo) (this : Nat) (attrs : Array Attribute := #[]) (ms : Array MethodInfo := #[]) (fl : Nat := 33) (sup : Nat := 0) (ifs : Array Nat := #[]) (fds : Array FieldInfo := #[]) : ClassFile where
  minorVersion := 0
  majorVersion := 65
  constantPool := pool
  accessFlags := fl
  thisClass := this
  superClass := sup
  interfaces := ifs
  fields := fds
  methods := ms
  attributes := attrs
def plain (name : String) (sup : Option ClassId) : Class where
  name := name
  kind := .ordinary
  loader := none
  accessFlags := 33
  super := sup
  interfaces := #[]
  cf := none
  fields := #[]
  methods := #[]
  instanceTypes := #[]
  staticTypes := #[]
  resolved := #[]
  callSites := []
  init := .initialized
  statics := none
  mirror := none

def pool0 : Array CpInfo := pool [(5, u "<init>"), (0, u "()V"), (1, .class_ 10), (1, u "java/lang/Object")] 113

def k0m0 : Method := { name := "<init>", desc := "()V", sig := { parameters := [], returnType := none }, accessFlags := 1, code := none }
/-- java/lang/Object -/
def k0 : Class := { plain "java/lang/Object" none with
  accessFlags := 33
  interfaces := #[]
  cf := some (fileOf pool0 8 #[] #[{ accessFlags := 1, nameIndex := 5, descriptorIndex := 6, attributes := #[] }] 33 0 #[] #[])
  fields := #[]
  methods := #[k0m0]
  instanceTypes := #[]
  staticTypes := #[]
  resolved := Array.replicate 124 none
  statics := none }

def pool1 : Array CpInfo := pool [(2, .class_ 4), (1, u "java/lang/Object"), (0, u "<init>"), (0, u "()V"), (0, .integer 2147483647), (0, .long 16777216), (1, .long 65536), (1, .long 256), (1, .methodref 15 16), (0, .class_ 17), (0, .nameAndType 18 19), (0, u "com/example/rila/rila/store/StoreKeys"), (0, u "readInt"), (0, u "([BI)I"), (0, .class_ 21), (0, u "com/example/rila/rila/store/StoreKeysReadIntPinLaw"), (2, u "law"), (0, u "(IIIIII)Z")] 5

def k1m0 : Method := { name := "<init>", desc := "()V", sig := { parameters := [], returnType := none }, accessFlags := 1, code := none }
def k1c1 : Code := { maxStack := 6, maxLocals := 11, code := code, exceptionTable := #[], attributes := #[] }
def k1m1 : Method := { name := "law", desc := "(IIIIII)Z", sig := { parameters := [.int, .int, .int, .int, .int, .int], returnType := some .boolean }, accessFlags := 9, code := some k1c1 }
/-- com/example/rila/rila/store/StoreKeysReadIntPinLaw -/
def k1 : Class := { plain "com/example/rila/rila/store/StoreKeysReadIntPinLaw" (some 0) with
  accessFlags := 49
  interfaces := #[]
  cf := some (fileOf pool1 20 #[] #[{ accessFlags := 1, nameIndex := 5, descriptorIndex := 6, attributes := #[] }, { accessFlags := 9, nameIndex := 24, descriptorIndex := 25, attributes := #[] }] 49 2 #[] #[])
  fields := #[]
  methods := #[k1m0, k1m1]
  instanceTypes := #[]
  staticTypes := #[]
  resolved := Array.replicate 31 none
  statics := none }

def pool2 : Array CpInfo := pool [(1, .class_ 2), (0, u "com/example/rila/rila/store/StoreKeys"), (1, .class_ 6), (1, u "java/lang/Object"), (0, u "<init>"), (0, u "()V"), (2, u "ORDERS"), (0, u "[B"), (52, u "readInt"), (0, u "([BI)I"), (8, u "TERM"), (0, u "B"), (2, u "TERM_ID"), (1, u "META"), (1, u "FIRING"), (1, u "REPRESENTATIVE"), (1, u "MEMBER"), (1, u "SPO"), (1, u "POS"), (1, u "OSP"), (1, u "SUBJECT"), (0, u "I"), (1, u "PREDICATE"), (1, u "OBJECT"), (1, u "CONTEXT_BIAS"), (0, u "INT_BYTES"), (1, u "STATEMENT_KEY_BYTES"), (1, u "LOOKUP_PREFIX_BYTES"), (1, u "TERMS")] 45

def k2m0 : Method := { name := "<init>", desc := "()V", sig := { parameters := [], returnType := none }, accessFlags := 2, code := none }
def k2c1 : Code := { maxStack := 4, maxLocals := 2, code := prog_12_method_15_code, exceptionTable := #[], attributes := #[] }
def k2m1 : Method := { name := "readInt", desc := "([BI)I", sig := { parameters := [(.array .byte), .int], returnType := some .int }, accessFlags := 8, code := some k2c1 }
/-- com/example/rila/rila/store/StoreKeys -/
def k2 : Class := { plain "com/example/rila/rila/store/StoreKeys" (some 0) with
  accessFlags := 48
  interfaces := #[]
  cf := some (fileOf pool2 1 #[] #[{ accessFlags := 2, nameIndex := 7, descriptorIndex := 8, attributes := #[] }, { accessFlags := 8, nameIndex := 65, descriptorIndex := 66, attributes := #[] }] 48 4 #[] #[{ accessFlags := 24, nameIndex := 75, descriptorIndex := 76, attributes := #[] }, { accessFlags := 24, nameIndex := 79, descriptorIndex := 76, attributes := #[] }, { accessFlags := 24, nameIndex := 81, descriptorIndex := 76, attributes := #[] }, { accessFlags := 24, nameIndex := 83, descriptorIndex := 76, attributes := #[] }, { accessFlags := 24, nameIndex := 85, descriptorIndex := 76, attributes := #[] }, { accessFlags := 24, nameIndex := 87, descriptorIndex := 76, attributes := #[] }, { accessFlags := 24, nameIndex := 89, descriptorIndex := 76, attributes := #[] }, { accessFlags := 24, nameIndex := 91, descriptorIndex := 76, attributes := #[] }, { accessFlags := 24, nameIndex := 93, descriptorIndex := 76, attributes := #[] }, { accessFlags := 24, nameIndex := 95, descriptorIndex := 96, attributes := #[] }, { accessFlags := 24, nameIndex := 98, descriptorIndex := 96, attributes := #[] }, { accessFlags := 24, nameIndex := 100, descriptorIndex := 96, attributes := #[] }, { accessFlags := 24, nameIndex := 102, descriptorIndex := 96, attributes := #[] }, { accessFlags := 24, nameIndex := 103, descriptorIndex := 96, attributes := #[] }, { accessFlags := 24, nameIndex := 105, descriptorIndex := 96, attributes := #[] }, { accessFlags := 24, nameIndex := 107, descriptorIndex := 96, attributes := #[] }, { accessFlags := 26, nameIndex := 109, descriptorIndex := 96, attributes := #[] }, { accessFlags := 26, nameIndex := 11, descriptorIndex := 12, attributes := #[] }])
  fields := #[{ name := "TERM", type := .byte, accessFlags := 24, slot := 0, constantValue := 0 }, { name := "TERM_ID", type := .byte, accessFlags := 24, slot := 1, constantValue := 0 }, { name := "META", type := .byte, accessFlags := 24, slot := 2, constantValue := 0 }, { name := "FIRING", type := .byte, accessFlags := 24, slot := 3, constantValue := 0 }, { name := "REPRESENTATIVE", type := .byte, accessFlags := 24, slot := 4, constantValue := 0 }, { name := "MEMBER", type := .byte, accessFlags := 24, slot := 5, constantValue := 0 }, { name := "SPO", type := .byte, accessFlags := 24, slot := 6, constantValue := 0 }, { name := "POS", type := .byte, accessFlags := 24, slot := 7, constantValue := 0 }, { name := "OSP", type := .byte, accessFlags := 24, slot := 8, constantValue := 0 }, { name := "SUBJECT", type := .int, accessFlags := 24, slot := 9, constantValue := 0 }, { name := "PREDICATE", type := .int, accessFlags := 24, slot := 10, constantValue := 0 }, { name := "OBJECT", type := .int, accessFlags := 24, slot := 11, constantValue := 0 }, { name := "CONTEXT_BIAS", type := .int, accessFlags := 24, slot := 12, constantValue := 0 }, { name := "INT_BYTES", type := .int, accessFlags := 24, slot := 13, constantValue := 0 }, { name := "STATEMENT_KEY_BYTES", type := .int, accessFlags := 24, slot := 14, constantValue := 0 }, { name := "LOOKUP_PREFIX_BYTES", type := .int, accessFlags := 24, slot := 15, constantValue := 0 }, { name := "TERMS", type := .int, accessFlags := 26, slot := 16, constantValue := 0 }, { name := "ORDERS", type := (.array .byte), accessFlags := 26, slot := 17, constantValue := 0 }]
  methods := #[k2m0, k2m1]
  instanceTypes := #[]
  staticTypes := #[.byte, .byte, .byte, .byte, .byte, .byte, .byte, .byte, .byte, .int, .int, .int, .int, .int, .int, .int, .int, (.array .byte)]
  resolved := Array.replicate 155 none
  statics := none }

def pool3 : Array CpInfo := pool [(1, u "java/lang/Cloneable"), (0, .class_ 1), (0, u "java/lang/Object"), (0, .class_ 3)] 3

/-- java/lang/Cloneable -/
def k3 : Class := { plain "java/lang/Cloneable" (some 0) with
  accessFlags := 1537
  interfaces := #[]
  cf := some (fileOf pool3 2 #[] #[] 1537 4 #[] #[])
  fields := #[]
  methods := #[]
  instanceTypes := #[]
  staticTypes := #[]
  resolved := Array.replicate 8 none
  statics := none }

def pool4 : Array CpInfo := pool [(1, u "java/io/Serializable"), (0, .class_ 1), (0, u "java/lang/Object"), (0, .class_ 3)] 3

/-- java/io/Serializable -/
def k4 : Class := { plain "java/io/Serializable" (some 0) with
  accessFlags := 1537
  interfaces := #[]
  cf := some (fileOf pool4 2 #[] #[] 1537 4 #[] #[])
  fields := #[]
  methods := #[]
  instanceTypes := #[]
  staticTypes := #[]
  resolved := Array.replicate 8 none
  statics := none }

/-- the primitive byte -/
def k5 : Class := { plain "byte" none with kind := .primitive 'B', accessFlags := 0x411 }
/-- [B -/
def k6 : Class := { plain "[B" (some 0) with kind := .array 5 .byte, interfaces := #[3, 4], accessFlags := 1041 }

/-- the primitive int -/
def k7 : Class := { plain "int" none with kind := .primitive 'I', accessFlags := 0x411 }
/-- [I -/
def k8 : Class := { plain "[I" (some 0) with kind := .array 7 .int, interfaces := #[3, 4], accessFlags := 1041 }

def heap : Heap := #[]
def classes : Array Class := #[k0, k1, k2, k3, k4, k5, k6, k7, k8]
def interned : List (Array UInt16 × Addr) := []
def slotsUsed : Nat := 0
def theMethod : MethodId := ⟨1, 1⟩
def args0 : Array Value := #[.int 5, .int 5, .int 5, .int 5, .int 5, .int 5]
def aboutOver (below : List Frame) : State where
  vm := { classes := classes, interned := interned.toArray }
  heap := heap
  slotsUsed := slotsUsed
  threads := #[{ frames := .invoking theMethod args0 :: below }]
def below0 : List Frame := [.native { method := ⟨0, 0⟩, args := #[] }]
def about1 : State := aboutOver below0
def p0 : Program := .bare "" "" ""
def e0 : Env := launch0.env 0 0 0
theorem w_frames : about1.frames = Frame.invoking theMethod args0 :: below0 := rfl
set_option maxRecDepth 65536 in
theorem w_args : argsFit about1.vm theMethod args0 = true := by decide +kernel
set_option maxRecDepth 65536 in
theorem w_heap : heapFits about1 = true := by decide +kernel
set_option maxRecDepth 65536 in
theorem w_runnable : about1.curStatus? = some .runnable := by decide +kernel
set_option maxRecDepth 65536 in
theorem w_alone : about1.alone = true := by decide +kernel
set_option maxRecDepth 65536 in
theorem w_named : about1.methodNamed? x = some theMethod := by decide +kernel
set_option maxRecDepth 65536 in
theorem w_hears : about1.hears theMethod below0 = true := by decide +kernel
set_option maxRecDepth 65536 in
theorem w_ripe : about1.ripe theMethod args0 below0 = true := by decide +kernel
theorem w_running : about1.status = .running := rfl
set_option maxRecDepth 65536 in
theorem w_room : about1.hasRoom e0.platform room_1 = true :=
  launch0.hasRoom_least _ room_1 (by decide +kernel) (by decide +kernel) (by decide +kernel) (by decide +kernel) (by decide +kernel) (by decide +kernel)
theorem allAtoms_all (ts : List Jvm.Cond) (a : Array Jvm.Value) (st : Jvm.State) : (allAtoms ts).before a st = ts.all (fun c => c.before a st) := by
  induction ts with
  | nil => rfl
  | cons c t ih =>
    show (Jvm.Cond.and c (allAtoms t)).before a st = _
    rw [Jvm.Cond.before_and, ih, List.all_cons]
def words1 : List Jvm.Cond := Jvm.Cond.code x code maxLocals ret :: tables_1
/-- a 'code' word, met by the world's own term for the bytes: nothing is compared byte by byte -/
theorem code_word {y : MethodName} {bytes : ByteArray} {mx : Nat} {rt : Option FieldType} {a : Array Value} {s : State} {m : MethodId} {meth : Method} {c : Code} (h1 : s.methodNamed? y = some m) (h2 : s.vm.method? m = some meth) (h3 : meth.code = some c) (h4 : c.code = bytes)
    (h5 : (c.maxLocals == mx && c.exceptionTable.isEmpty && decide (c.maxStack ≤ mostOperands) && decide (meth.sig.returnType = rt) && !meth.locks && decide (parseMethodDescriptor y.desc = some meth.sig)) = true) : (Jvm.Cond.code y bytes mx rt).before a s = true := by
  simp only [Bool.and_eq_true, beq_iff_eq, Bool.not_eq_true', decide_eq_true_eq] at h5
  obtain ⟨⟨⟨⟨⟨g1, g2⟩, g3⟩, g4⟩, g5⟩, g6⟩ := h5
  simp [Cond.before, Cond.holds, Cond.value, h1, h2, h3, h4, g1, g2, g3, g4, g5, g6]
def isCode : Jvm.Cond → Bool
  | .code _ _ _ _ => true
  | _ => false
theorem all_split {L : List Jvm.Cond} {P : Jvm.Cond → Bool} (h1 : L.all (fun c => isCode c || P c) = true) (h2 : ∀ c ∈ L.filter isCode, P c = true) : L.all P = true := by
  refine List.all_eq_true.mpr fun c hc => ?_
  have h := List.all_eq_true.mp h1 c hc
  rcases Bool.eq_false_or_eq_true (isCode c) with hi | hi
  · exact h2 c (List.mem_filter.mpr ⟨hc, hi⟩)
  · simpa [hi] using h
set_option maxRecDepth 65536 in
theorem w_c0 : (Jvm.Cond.code x code maxLocals ret).before args0 about1 = true := code_word (m := ⟨1, 1⟩) (meth := k1m1) (c := k1c1) (by decide +kernel) rfl rfl rfl (by decide +kernel)
set_option maxRecDepth 65536 in
theorem w_c1 : (Jvm.Cond.code ({ cls := "com/example/rila/rila/store/StoreKeys", name := "readInt", desc := "([BI)I" } : Jvm.MethodName) prog_12_method_15_code (2 : Nat) (Option.some Jvm.ClassFile.FieldType.int)).before args0 about1 = true := code_word (m := ⟨2, 1⟩) (meth := k2m1) (c := k2c1) (by decide +kernel) rfl rfl rfl (by decide +kernel)
def codes1 : List Jvm.Cond := [Jvm.Cond.code x code maxLocals ret, Jvm.Cond.code ({ cls := "com/example/rila/rila/store/StoreKeys", name := "readInt", desc := "([BI)I" } : Jvm.MethodName) prog_12_method_15_code (2 : Nat) (Option.some Jvm.ClassFile.FieldType.int)]
set_option maxRecDepth 65536 in
theorem codes_eq : words1.filter isCode = codes1 := rfl
theorem w_codes : ∀ c ∈ words1.filter isCode, c.before args0 about1 = true := by
  rw [codes_eq]
  intro c hc
  simp only [codes1, List.mem_cons, List.not_mem_nil, or_false] at hc
  rcases hc with rfl | rfl
  · exact w_c0
  · exact w_c1
set_option maxRecDepth 65536 in
theorem w_t1 : words1.all (fun c => isCode c || c.before args0 about1) = true := by decide +kernel
theorem w_tables : (allAtoms (Jvm.Cond.code x code maxLocals ret :: tables_1)).before args0 about1 = true := by
  rw [allAtoms_all]
  show words1.all (fun c => c.before args0 about1) = true
  refine all_split ?_ w_codes
  rw [w_t1]
set_option maxRecDepth 65536 in
theorem w_case : (Jvm.Cond.and given_1 narrow_1).before args0 about1 = true := by decide +kernel
theorem w_applies : (headSpec (Jvm.Cond.code x code maxLocals ret :: tables_1) room_1).applies x e0.platform about1 = true :=
  (Spec.applies_iff w_frames).mpr ⟨w_running, w_runnable, w_alone, w_named, w_hears, w_ripe, w_room, w_tables⟩
theorem atStart : AtStart classFile x code maxLocals ret World_1 tables_1 room_1 Calls_1 rest_1 Pre_1 launch0 p0 e0 about1 theMethod args0 below0 :=
  ⟨lists_1, trivial, launch0.admits_env _ _ _, launch0.least_env, fairChoices_fair.cas, fairChoices_fair.clock, w_frames, w_args, w_heap, w_applies, trivial, trivial, w_case⟩
end start1
theorem witness_1 : WitnessClaimed_1 := ⟨start1.p0, start1.e0, start1.about1, start1.theMethod, start1.args0, start1.below0, start1.atStart⟩
end Jvm.Pilot.@@N@@
