import JvmDerived
import JvmDerived.Pilot.@@N@@Statement
import JvmDerived.Pilot.@@N@@Code
set_option linter.unusedVariables false
set_option linter.unusedSimpArgs false
namespace Jvm.OwnW
open Sem ClassFile Op Lib Jvm.Free Jvm.Stand Jvm.LawKit Jvm.RoadKit
/-- where a walk stands: the method's facts, the heap, nothing old written -/
def Pos (Z : State) (y : MethodName) (bytes : ByteArray) (maxL : Nat) (ret : Option FieldType) (n0 : Nat) (p : Program) (l : Launch) (e : Env) (R : Room) (s : State) (m : MethodId) (args : Array Value) (below : List Frame) (meth : Method) (c : Code) (T : State) (h : Heap) (cells slots : Nat) : Prop :=
  (p.tables.exec = Jvm.exec ∧ c.code = bytes ∧ c.maxLocals = maxL ∧ s.vm.findClass y.cls = some m.cls ∧ meth.name = y.name ∧ meth.sig.returnType = ret ∧ meth.locks = false ∧ Z.Warmed39 s.vm ∧ n0 ≤ s.heap.size) ∧
  ∃ locs, Stand p l e R s m args below meth c T locs cells slots ∧ T.heap = h ∧ Fr n0 locs
/-- the run from t comes to a return of which Q holds -/
def Goes (p : Program) (e : Env) (below : List Frame) (s : State) (n0 kc ks : Nat) (Q : Option Value → Heap → Prop) (t : State) : Prop :=
  ∃ s₂ o, Steps p.tables e below t s₂ ∧ s₂.status = .running ∧ Ended s₂ below o ∧ ∃ v L, o = .returned v ∧ (Q v s₂.heap ∧ Fr n0 L) ∧ FrameEnd s o s₂ L kc ks
/-- a method's contract: called with these arguments at the heap h0 it returns, and Q holds of the value and the heap -/
def Con (l : Launch) (Z : State) (y : MethodName) (bytes : ByteArray) (maxL : Nat) (ret : Option FieldType) (rm : Room) (n0 : Nat) (as : Array Value) (h0 : Heap) (Q : Option Value → Heap → Prop) : Prop :=
  ∀ ws : List Jvm.Cond, MetFree l y (head1 (Jvm.Cond.code y bytes maxL ret :: ws) rm) (fun a U => a = as ∧ Z.Warmed39 U.vm ∧ U.heap = h0) (fun _ _ _ _ _ => True) (fun _ U o U' => ∃ v L, o = .returned v ∧ (Q v U'.heap ∧ Fr n0 L) ∧ FrameEnd U o U' L rm.cells rm.slots)
section Base
variable {Z : State} {y : MethodName} {bytes : ByteArray} {maxL : Nat} {ret : Option FieldType} {n0 : Nat} {p : Program} {l : Launch} {e : Env} {R : Room} {s : State} {m : MethodId} {args : Array Value} {below : List Frame} {meth : Method} {c : Code} {T : State} {h : Heap} {cells slots kc ks : Nat} {Q : Option Value → Heap → Prop} {pc pc' pcY pcN : Nat} {L L' : Array Slot} {S : List Value} {a0 : Array Value}
theorem Goes.via {t t' : State} (k : ∀ target, Steps p.tables e below t' target → Steps p.tables e below t target) (G : Goes p e below s n0 kc ks Q t') : Goes p e below s n0 kc ks Q t := by
  obtain ⟨s₂, o, h1, r⟩ := G
  exact ⟨s₂, o, k _ h1, r⟩
theorem Goes.mono {Q' : Option Value → Heap → Prop} {t : State} (k : ∀ v h, Q' v h → Q v h) (G : Goes p e below s n0 kc ks Q' t) : Goes p e below s n0 kc ks Q t := by
  obtain ⟨s₂, o, h1, h2, h3, v, L, h4, ⟨h5, h6⟩, h7⟩ := G
  exact ⟨s₂, o, h1, h2, h3, v, L, h4, ⟨k _ _ h5, h6⟩, h7⟩
theorem Con.mono {rm : Room} {as : Array Value} {h0 : Heap} {Q' : Option Value → Heap → Prop} (K : Con l Z y bytes maxL ret rm n0 as h0 Q') (k : ∀ v h, Q' v h → Q v h) : Con l Z y bytes maxL ret rm n0 as h0 Q := by
  intro ws p e ha hc hk s m args below hf happ hP hK
  obtain ⟨n, o, h1, h2, h3, v, L, h4, ⟨h5, h6⟩, h7⟩ := K ws p e ha hc hk s m args below hf happ hP hK
  exact ⟨n, o, h1, h2, h3, v, L, h4, ⟨k _ _ h5, h6⟩, h7⟩
theorem Con.body {rm : Room} {as : Array Value} {h0 : Heap} {Ls : Array Slot} (pn : plainFor y = true) (hn0 : n0 ≤ h0.size) (ef : ∀ m, entryFrame m as maxL = mkF m 0 Ls [])
    (H : ∀ p e s m below meth c T, Pos Z y bytes maxL ret n0 p l e rm s m as below meth c T h0 0 0 → Goes p e below s n0 rm.cells rm.slots Q (T.setTop (mkF m 0 Ls []))) : Con l Z y bytes maxL ret rm n0 as h0 Q := by
  intro ws
  refine MetFree.of_bodySF pn hisR ?_
  intro p e s m args below meth c s₁ Bd hml0 hP hK
  obtain ⟨rfl, hZ, hh⟩ := hP
  have X0 : Stand p l e rm s m args below meth c s₁ [] 0 0 := Stand.of_body Bd
  have e0 : s₁.heap = h0 := by rw [← hh, Bd.state]; rfl
  rw [ef]
  exact H p e s m below meth c s₁ ⟨⟨Bd.exec, Bd.bytes, hml0, findClass_of_methodNamed Bd.named, (name_of_methodNamed Bd.named Bd.method).1, Bd.returns, Bd.notSynchronized, hZ, by rw [hh]; exact hn0⟩, [], X0, e0, Fr.nil n0⟩
theorem Pos.sz (P : Pos Z y bytes maxL ret n0 p l e R s m args below meth c T h cells slots) : n0 ≤ h.size := by
  obtain ⟨⟨-, -, -, -, -, -, -, -, hn0⟩, locs, X, rfl, -⟩ := P
  exact Nat.le_trans hn0 X.same.2.1
end Base
namespace G
section Plain
variable {Z : State} {y : MethodName} {bytes : ByteArray} {maxL : Nat} {ret : Option FieldType} {n0 : Nat} {p : Program} {l : Launch} {e : Env} {R : Room} {s : State} {m : MethodId} {args : Array Value} {below : List Frame} {meth : Method} {c : Code} {T : State} {h : Heap} {cells slots kc ks : Nat} {Q : Option Value → Heap → Prop} {pc pc' pcY pcN : Nat} {L L' : Array Slot} {S : List Value} {a0 : Array Value}
theorem iload (P : Pos Z y bytes maxL ret n0 p l e R s m args below meth c T h cells slots) {k : Nat} {v : Int32} (hd : decode bytes pc = .ok (.iload k, 2)) (hl : L[k]? = some (.val (.int v))) (hp : pc + 2 = pc') (k : Goes p e below s n0 kc ks Q (T.setTop (mkF m pc' L (.int v :: S)))) : Goes p e below s n0 kc ks Q (T.setTop (mkF m pc L S)) := by
  obtain ⟨⟨hx, rfl, rfl, hown, hnm, rfl, hlk, hZ, hn0⟩, locs, X, rfl, N⟩ := P
  subst hp
  exact k.via fun t q => XS.iload X.here hx rfl hd hl q
theorem iloadN (P : Pos Z y bytes maxL ret n0 p l e R s m args below meth c T h cells slots) {k : Fin 4} {v : Int32} (hd : decode bytes pc = .ok (.iload_n k, 1)) (hl : L[k.val]? = some (.val (.int v))) (hp : pc + 1 = pc') (k : Goes p e below s n0 kc ks Q (T.setTop (mkF m pc' L (.int v :: S)))) : Goes p e below s n0 kc ks Q (T.setTop (mkF m pc L S)) := by
  obtain ⟨⟨hx, rfl, rfl, hown, hnm, rfl, hlk, hZ, hn0⟩, locs, X, rfl, N⟩ := P
  subst hp
  exact k.via fun t q => XS.iloadN X.here hx rfl hd hl q
theorem lload (P : Pos Z y bytes maxL ret n0 p l e R s m args below meth c T h cells slots) {k : Nat} {v : Int64} (hd : decode bytes pc = .ok (.lload k, 2)) (hl : L[k]? = some (.val (.long v))) (hp : pc + 2 = pc') (k : Goes p e below s n0 kc ks Q (T.setTop (mkF m pc' L (.long v :: S)))) : Goes p e below s n0 kc ks Q (T.setTop (mkF m pc L S)) := by
  obtain ⟨⟨hx, rfl, rfl, hown, hnm, rfl, hlk, hZ, hn0⟩, locs, X, rfl, N⟩ := P
  subst hp
  exact k.via fun t q => XS.lload X.here hx rfl hd hl q
theorem lloadN (P : Pos Z y bytes maxL ret n0 p l e R s m args below meth c T h cells slots) {k : Fin 4} {v : Int64} (hd : decode bytes pc = .ok (.lload_n k, 1)) (hl : L[k.val]? = some (.val (.long v))) (hp : pc + 1 = pc') (k : Goes p e below s n0 kc ks Q (T.setTop (mkF m pc' L (.long v :: S)))) : Goes p e below s n0 kc ks Q (T.setTop (mkF m pc L S)) := by
  obtain ⟨⟨hx, rfl, rfl, hown, hnm, rfl, hlk, hZ, hn0⟩, locs, X, rfl, N⟩ := P
  subst hp
  exact k.via fun t q => XS.lloadN X.here hx rfl hd hl q
theorem aload (P : Pos Z y bytes maxL ret n0 p l e R s m args below meth c T h cells slots) {k : Nat} {v : Value} (hd : decode bytes pc = .ok (.aload k, 2)) (hl : L[k]? = some (.val v)) (hv : v.isRef = true) (hp : pc + 2 = pc') (k : Goes p e below s n0 kc ks Q (T.setTop (mkF m pc' L (v :: S)))) : Goes p e below s n0 kc ks Q (T.setTop (mkF m pc L S)) := by
  obtain ⟨⟨hx, rfl, rfl, hown, hnm, rfl, hlk, hZ, hn0⟩, locs, X, rfl, N⟩ := P
  subst hp
  exact k.via fun t q => XS.aload X.here hx rfl hd hl hv q
theorem aloadN (P : Pos Z y bytes maxL ret n0 p l e R s m args below meth c T h cells slots) {k : Fin 4} {v : Value} (hd : decode bytes pc = .ok (.aload_n k, 1)) (hl : L[k.val]? = some (.val v)) (hv : v.isRef = true) (hp : pc + 1 = pc') (k : Goes p e below s n0 kc ks Q (T.setTop (mkF m pc' L (v :: S)))) : Goes p e below s n0 kc ks Q (T.setTop (mkF m pc L S)) := by
  obtain ⟨⟨hx, rfl, rfl, hown, hnm, rfl, hlk, hZ, hn0⟩, locs, X, rfl, N⟩ := P
  subst hp
  exact k.via fun t q => XS.aloadN X.here hx rfl hd hl hv q
theorem istore (P : Pos Z y bytes maxL ret n0 p l e R s m args below meth c T h cells slots) {k : Nat} {v v' : Int32} (hd : decode bytes pc = .ok (.istore k, 2)) (hv : v = v') (hl : storeLocals L k (.int v') = some L') (hp : pc + 2 = pc') (k : Goes p e below s n0 kc ks Q (T.setTop (mkF m pc' L' S))) : Goes p e below s n0 kc ks Q (T.setTop (mkF m pc L (.int v :: S))) := by
  obtain ⟨⟨hx, rfl, rfl, hown, hnm, rfl, hlk, hZ, hn0⟩, locs, X, rfl, N⟩ := P
  subst hp hv
  exact k.via fun t q => XS.istore X.here hx rfl hd rfl hl q
theorem istoreN (P : Pos Z y bytes maxL ret n0 p l e R s m args below meth c T h cells slots) {k : Fin 4} {v v' : Int32} (hd : decode bytes pc = .ok (.istore_n k, 1)) (hv : v = v') (hl : storeLocals L k.val (.int v') = some L') (hp : pc + 1 = pc') (k : Goes p e below s n0 kc ks Q (T.setTop (mkF m pc' L' S))) : Goes p e below s n0 kc ks Q (T.setTop (mkF m pc L (.int v :: S))) := by
  obtain ⟨⟨hx, rfl, rfl, hown, hnm, rfl, hlk, hZ, hn0⟩, locs, X, rfl, N⟩ := P
  subst hp hv
  exact k.via fun t q => XS.istoreN X.here hx rfl hd rfl hl q
theorem lstore (P : Pos Z y bytes maxL ret n0 p l e R s m args below meth c T h cells slots) {k : Nat} {v v' : Int64} (hd : decode bytes pc = .ok (.lstore k, 2)) (hv : v = v') (hl : storeLocals L k (.long v') = some L') (hp : pc + 2 = pc') (k : Goes p e below s n0 kc ks Q (T.setTop (mkF m pc' L' S))) : Goes p e below s n0 kc ks Q (T.setTop (mkF m pc L (.long v :: S))) := by
  obtain ⟨⟨hx, rfl, rfl, hown, hnm, rfl, hlk, hZ, hn0⟩, locs, X, rfl, N⟩ := P
  subst hp hv
  exact k.via fun t q => XS.lstore X.here hx rfl hd rfl hl q
theorem lstoreN (P : Pos Z y bytes maxL ret n0 p l e R s m args below meth c T h cells slots) {k : Fin 4} {v v' : Int64} (hd : decode bytes pc = .ok (.lstore_n k, 1)) (hv : v = v') (hl : storeLocals L k.val (.long v') = some L') (hp : pc + 1 = pc') (k : Goes p e below s n0 kc ks Q (T.setTop (mkF m pc' L' S))) : Goes p e below s n0 kc ks Q (T.setTop (mkF m pc L (.long v :: S))) := by
  obtain ⟨⟨hx, rfl, rfl, hown, hnm, rfl, hlk, hZ, hn0⟩, locs, X, rfl, N⟩ := P
  subst hp hv
  exact k.via fun t q => XS.lstoreN X.here hx rfl hd rfl hl q
theorem astore (P : Pos Z y bytes maxL ret n0 p l e R s m args below meth c T h cells slots) {k : Nat} {v : Value} (hd : decode bytes pc = .ok (.astore k, 2)) (hv : v.isRef = true) (hl : storeLocals L k v = some L') (hp : pc + 2 = pc') (k : Goes p e below s n0 kc ks Q (T.setTop (mkF m pc' L' S))) : Goes p e below s n0 kc ks Q (T.setTop (mkF m pc L (v :: S))) := by
  obtain ⟨⟨hx, rfl, rfl, hown, hnm, rfl, hlk, hZ, hn0⟩, locs, X, rfl, N⟩ := P
  subst hp
  exact k.via fun t q => XS.astore X.here hx rfl hd rfl hv hl q
theorem astoreN (P : Pos Z y bytes maxL ret n0 p l e R s m args below meth c T h cells slots) {k : Fin 4} {v : Value} (hd : decode bytes pc = .ok (.astore_n k, 1)) (hv : v.isRef = true) (hl : storeLocals L k.val v = some L') (hp : pc + 1 = pc') (k : Goes p e below s n0 kc ks Q (T.setTop (mkF m pc' L' S))) : Goes p e below s n0 kc ks Q (T.setTop (mkF m pc L (v :: S))) := by
  obtain ⟨⟨hx, rfl, rfl, hown, hnm, rfl, hlk, hZ, hn0⟩, locs, X, rfl, N⟩ := P
  subst hp
  exact k.via fun t q => XS.astoreN X.here hx rfl hd rfl hv hl q
theorem iconst (P : Pos Z y bytes maxL ret n0 p l e R s m args below meth c T h cells slots) {i : Int} {v : Int32} (hd : decode bytes pc = .ok (.iconst i, 1)) (hv : Int32.ofInt i = v) (hp : pc + 1 = pc') (k : Goes p e below s n0 kc ks Q (T.setTop (mkF m pc' L (.int v :: S)))) : Goes p e below s n0 kc ks Q (T.setTop (mkF m pc L S)) := by
  obtain ⟨⟨hx, rfl, rfl, hown, hnm, rfl, hlk, hZ, hn0⟩, locs, X, rfl, N⟩ := P
  subst hp hv
  exact k.via fun t q => XS.iconst X.here hx rfl hd q
theorem bipush (P : Pos Z y bytes maxL ret n0 p l e R s m args below meth c T h cells slots) {i : Int} {v : Int32} (hd : decode bytes pc = .ok (.bipush i, 2)) (hv : (Int8.ofInt i).toInt32 = v) (hp : pc + 2 = pc') (k : Goes p e below s n0 kc ks Q (T.setTop (mkF m pc' L (.int v :: S)))) : Goes p e below s n0 kc ks Q (T.setTop (mkF m pc L S)) := by
  obtain ⟨⟨hx, rfl, rfl, hown, hnm, rfl, hlk, hZ, hn0⟩, locs, X, rfl, N⟩ := P
  subst hp hv
  exact k.via fun t q => XS.bipush X.here hx rfl hd q
theorem sipush (P : Pos Z y bytes maxL ret n0 p l e R s m args below meth c T h cells slots) {i : Int} {v : Int32} (hd : decode bytes pc = .ok (.sipush i, 3)) (hv : (Int16.ofInt i).toInt32 = v) (hp : pc + 3 = pc') (k : Goes p e below s n0 kc ks Q (T.setTop (mkF m pc' L (.int v :: S)))) : Goes p e below s n0 kc ks Q (T.setTop (mkF m pc L S)) := by
  obtain ⟨⟨hx, rfl, rfl, hown, hnm, rfl, hlk, hZ, hn0⟩, locs, X, rfl, N⟩ := P
  subst hp hv
  exact k.via fun t q => XS.sipush X.here hx rfl hd q
theorem lconst (P : Pos Z y bytes maxL ret n0 p l e R s m args below meth c T h cells slots) {i : Fin 2} {v : Int64} (hd : decode bytes pc = .ok (.lconst i, 1)) (hv : Int64.ofNat i = v) (hp : pc + 1 = pc') (k : Goes p e below s n0 kc ks Q (T.setTop (mkF m pc' L (.long v :: S)))) : Goes p e below s n0 kc ks Q (T.setTop (mkF m pc L S)) := by
  obtain ⟨⟨hx, rfl, rfl, hown, hnm, rfl, hlk, hZ, hn0⟩, locs, X, rfl, N⟩ := P
  subst hp hv
  exact k.via fun t q => XS.lconst X.here hx rfl hd q
theorem aconstNull (P : Pos Z y bytes maxL ret n0 p l e R s m args below meth c T h cells slots) (hd : decode bytes pc = .ok (.aconst_null, 1)) (hp : pc + 1 = pc') (k : Goes p e below s n0 kc ks Q (T.setTop (mkF m pc' L (.null :: S)))) : Goes p e below s n0 kc ks Q (T.setTop (mkF m pc L S)) := by
  obtain ⟨⟨hx, rfl, rfl, hown, hnm, rfl, hlk, hZ, hn0⟩, locs, X, rfl, N⟩ := P
  subst hp
  exact k.via fun t q => XS.aconstNull X.here hx rfl hd q
theorem iadd (P : Pos Z y bytes maxL ret n0 p l e R s m args below meth c T h cells slots) {x z : Int32} (hd : decode bytes pc = .ok (.iadd, 1)) (hp : pc + 1 = pc') (k : Goes p e below s n0 kc ks Q (T.setTop (mkF m pc' L (.int (x + z) :: S)))) : Goes p e below s n0 kc ks Q (T.setTop (mkF m pc L (.int z :: .int x :: S))) := by
  obtain ⟨⟨hx, rfl, rfl, hown, hnm, rfl, hlk, hZ, hn0⟩, locs, X, rfl, N⟩ := P
  subst hp
  exact k.via fun t q => XS.iadd X.here hx rfl hd rfl q
theorem isub (P : Pos Z y bytes maxL ret n0 p l e R s m args below meth c T h cells slots) {x z : Int32} (hd : decode bytes pc = .ok (.isub, 1)) (hp : pc + 1 = pc') (k : Goes p e below s n0 kc ks Q (T.setTop (mkF m pc' L (.int (x - z) :: S)))) : Goes p e below s n0 kc ks Q (T.setTop (mkF m pc L (.int z :: .int x :: S))) := by
  obtain ⟨⟨hx, rfl, rfl, hown, hnm, rfl, hlk, hZ, hn0⟩, locs, X, rfl, N⟩ := P
  subst hp
  exact k.via fun t q => XS.isub X.here hx rfl hd rfl q
theorem imul (P : Pos Z y bytes maxL ret n0 p l e R s m args below meth c T h cells slots) {x z : Int32} (hd : decode bytes pc = .ok (.imul, 1)) (hp : pc + 1 = pc') (k : Goes p e below s n0 kc ks Q (T.setTop (mkF m pc' L (.int (x * z) :: S)))) : Goes p e below s n0 kc ks Q (T.setTop (mkF m pc L (.int z :: .int x :: S))) := by
  obtain ⟨⟨hx, rfl, rfl, hown, hnm, rfl, hlk, hZ, hn0⟩, locs, X, rfl, N⟩ := P
  subst hp
  exact k.via fun t q => XS.imul X.here hx rfl hd rfl q
theorem iand (P : Pos Z y bytes maxL ret n0 p l e R s m args below meth c T h cells slots) {x z : Int32} (hd : decode bytes pc = .ok (.iand, 1)) (hp : pc + 1 = pc') (k : Goes p e below s n0 kc ks Q (T.setTop (mkF m pc' L (.int (x &&& z) :: S)))) : Goes p e below s n0 kc ks Q (T.setTop (mkF m pc L (.int z :: .int x :: S))) := by
  obtain ⟨⟨hx, rfl, rfl, hown, hnm, rfl, hlk, hZ, hn0⟩, locs, X, rfl, N⟩ := P
  subst hp
  exact k.via fun t q => XS.iand X.here hx rfl hd rfl q
theorem ior (P : Pos Z y bytes maxL ret n0 p l e R s m args below meth c T h cells slots) {x z : Int32} (hd : decode bytes pc = .ok (.ior, 1)) (hp : pc + 1 = pc') (k : Goes p e below s n0 kc ks Q (T.setTop (mkF m pc' L (.int (x ||| z) :: S)))) : Goes p e below s n0 kc ks Q (T.setTop (mkF m pc L (.int z :: .int x :: S))) := by
  obtain ⟨⟨hx, rfl, rfl, hown, hnm, rfl, hlk, hZ, hn0⟩, locs, X, rfl, N⟩ := P
  subst hp
  exact k.via fun t q => XS.ior X.here hx rfl hd rfl q
theorem ixor (P : Pos Z y bytes maxL ret n0 p l e R s m args below meth c T h cells slots) {x z : Int32} (hd : decode bytes pc = .ok (.ixor, 1)) (hp : pc + 1 = pc') (k : Goes p e below s n0 kc ks Q (T.setTop (mkF m pc' L (.int (x ^^^ z) :: S)))) : Goes p e below s n0 kc ks Q (T.setTop (mkF m pc L (.int z :: .int x :: S))) := by
  obtain ⟨⟨hx, rfl, rfl, hown, hnm, rfl, hlk, hZ, hn0⟩, locs, X, rfl, N⟩ := P
  subst hp
  exact k.via fun t q => XS.ixor X.here hx rfl hd rfl q
theorem ishl (P : Pos Z y bytes maxL ret n0 p l e R s m args below meth c T h cells slots) {x z : Int32} (hd : decode bytes pc = .ok (.ishl, 1)) (hp : pc + 1 = pc') (k : Goes p e below s n0 kc ks Q (T.setTop (mkF m pc' L (.int (x <<< (z &&& 31)) :: S)))) : Goes p e below s n0 kc ks Q (T.setTop (mkF m pc L (.int z :: .int x :: S))) := by
  obtain ⟨⟨hx, rfl, rfl, hown, hnm, rfl, hlk, hZ, hn0⟩, locs, X, rfl, N⟩ := P
  subst hp
  exact k.via fun t q => XS.ishl X.here hx rfl hd rfl q
theorem ishr (P : Pos Z y bytes maxL ret n0 p l e R s m args below meth c T h cells slots) {x z : Int32} (hd : decode bytes pc = .ok (.ishr, 1)) (hp : pc + 1 = pc') (k : Goes p e below s n0 kc ks Q (T.setTop (mkF m pc' L (.int (x >>> (z &&& 31)) :: S)))) : Goes p e below s n0 kc ks Q (T.setTop (mkF m pc L (.int z :: .int x :: S))) := by
  obtain ⟨⟨hx, rfl, rfl, hown, hnm, rfl, hlk, hZ, hn0⟩, locs, X, rfl, N⟩ := P
  subst hp
  exact k.via fun t q => XS.ishr X.here hx rfl hd rfl q
theorem iushr (P : Pos Z y bytes maxL ret n0 p l e R s m args below meth c T h cells slots) {x z : Int32} (hd : decode bytes pc = .ok (.iushr, 1)) (hp : pc + 1 = pc') (k : Goes p e below s n0 kc ks Q (T.setTop (mkF m pc' L (.int ((x.toUInt32 >>> (z &&& 31).toUInt32).toInt32) :: S)))) : Goes p e below s n0 kc ks Q (T.setTop (mkF m pc L (.int z :: .int x :: S))) := by
  obtain ⟨⟨hx, rfl, rfl, hown, hnm, rfl, hlk, hZ, hn0⟩, locs, X, rfl, N⟩ := P
  subst hp
  exact k.via fun t q => XS.iushr X.here hx rfl hd rfl q
theorem ladd (P : Pos Z y bytes maxL ret n0 p l e R s m args below meth c T h cells slots) {x z : Int64} (hd : decode bytes pc = .ok (.ladd, 1)) (hp : pc + 1 = pc') (k : Goes p e below s n0 kc ks Q (T.setTop (mkF m pc' L (.long (x + z) :: S)))) : Goes p e below s n0 kc ks Q (T.setTop (mkF m pc L (.long z :: .long x :: S))) := by
  obtain ⟨⟨hx, rfl, rfl, hown, hnm, rfl, hlk, hZ, hn0⟩, locs, X, rfl, N⟩ := P
  subst hp
  exact k.via fun t q => XS.ladd X.here hx rfl hd rfl q
theorem lsub (P : Pos Z y bytes maxL ret n0 p l e R s m args below meth c T h cells slots) {x z : Int64} (hd : decode bytes pc = .ok (.lsub, 1)) (hp : pc + 1 = pc') (k : Goes p e below s n0 kc ks Q (T.setTop (mkF m pc' L (.long (x - z) :: S)))) : Goes p e below s n0 kc ks Q (T.setTop (mkF m pc L (.long z :: .long x :: S))) := by
  obtain ⟨⟨hx, rfl, rfl, hown, hnm, rfl, hlk, hZ, hn0⟩, locs, X, rfl, N⟩ := P
  subst hp
  exact k.via fun t q => XS.lsub X.here hx rfl hd rfl q
theorem lmul (P : Pos Z y bytes maxL ret n0 p l e R s m args below meth c T h cells slots) {x z : Int64} (hd : decode bytes pc = .ok (.lmul, 1)) (hp : pc + 1 = pc') (k : Goes p e below s n0 kc ks Q (T.setTop (mkF m pc' L (.long (x * z) :: S)))) : Goes p e below s n0 kc ks Q (T.setTop (mkF m pc L (.long z :: .long x :: S))) := by
  obtain ⟨⟨hx, rfl, rfl, hown, hnm, rfl, hlk, hZ, hn0⟩, locs, X, rfl, N⟩ := P
  subst hp
  exact k.via fun t q => XS.lmul X.here hx rfl hd rfl q
theorem land (P : Pos Z y bytes maxL ret n0 p l e R s m args below meth c T h cells slots) {x z : Int64} (hd : decode bytes pc = .ok (.land, 1)) (hp : pc + 1 = pc') (k : Goes p e below s n0 kc ks Q (T.setTop (mkF m pc' L (.long (x &&& z) :: S)))) : Goes p e below s n0 kc ks Q (T.setTop (mkF m pc L (.long z :: .long x :: S))) := by
  obtain ⟨⟨hx, rfl, rfl, hown, hnm, rfl, hlk, hZ, hn0⟩, locs, X, rfl, N⟩ := P
  subst hp
  exact k.via fun t q => XS.land X.here hx rfl hd rfl q
theorem lor (P : Pos Z y bytes maxL ret n0 p l e R s m args below meth c T h cells slots) {x z : Int64} (hd : decode bytes pc = .ok (.lor, 1)) (hp : pc + 1 = pc') (k : Goes p e below s n0 kc ks Q (T.setTop (mkF m pc' L (.long (x ||| z) :: S)))) : Goes p e below s n0 kc ks Q (T.setTop (mkF m pc L (.long z :: .long x :: S))) := by
  obtain ⟨⟨hx, rfl, rfl, hown, hnm, rfl, hlk, hZ, hn0⟩, locs, X, rfl, N⟩ := P
  subst hp
  exact k.via fun t q => XS.lor X.here hx rfl hd rfl q
theorem lxor (P : Pos Z y bytes maxL ret n0 p l e R s m args below meth c T h cells slots) {x z : Int64} (hd : decode bytes pc = .ok (.lxor, 1)) (hp : pc + 1 = pc') (k : Goes p e below s n0 kc ks Q (T.setTop (mkF m pc' L (.long (x ^^^ z) :: S)))) : Goes p e below s n0 kc ks Q (T.setTop (mkF m pc L (.long z :: .long x :: S))) := by
  obtain ⟨⟨hx, rfl, rfl, hown, hnm, rfl, hlk, hZ, hn0⟩, locs, X, rfl, N⟩ := P
  subst hp
  exact k.via fun t q => XS.lxor X.here hx rfl hd rfl q
theorem lshl (P : Pos Z y bytes maxL ret n0 p l e R s m args below meth c T h cells slots) {x : Int64} {z : Int32} (hd : decode bytes pc = .ok (.lshl, 1)) (hp : pc + 1 = pc') (k : Goes p e below s n0 kc ks Q (T.setTop (mkF m pc' L (.long (x <<< (z &&& 0x3f).toInt64) :: S)))) : Goes p e below s n0 kc ks Q (T.setTop (mkF m pc L (.int z :: .long x :: S))) := by
  obtain ⟨⟨hx, rfl, rfl, hown, hnm, rfl, hlk, hZ, hn0⟩, locs, X, rfl, N⟩ := P
  subst hp
  exact k.via fun t q => XS.lshl X.here hx rfl hd rfl q
theorem lshr (P : Pos Z y bytes maxL ret n0 p l e R s m args below meth c T h cells slots) {x : Int64} {z : Int32} (hd : decode bytes pc = .ok (.lshr, 1)) (hp : pc + 1 = pc') (k : Goes p e below s n0 kc ks Q (T.setTop (mkF m pc' L (.long (x >>> (z &&& 0x3f).toInt64) :: S)))) : Goes p e below s n0 kc ks Q (T.setTop (mkF m pc L (.int z :: .long x :: S))) := by
  obtain ⟨⟨hx, rfl, rfl, hown, hnm, rfl, hlk, hZ, hn0⟩, locs, X, rfl, N⟩ := P
  subst hp
  exact k.via fun t q => XS.lshr X.here hx rfl hd rfl q
theorem lushr (P : Pos Z y bytes maxL ret n0 p l e R s m args below meth c T h cells slots) {x : Int64} {z : Int32} (hd : decode bytes pc = .ok (.lushr, 1)) (hp : pc + 1 = pc') (k : Goes p e below s n0 kc ks Q (T.setTop (mkF m pc' L (.long ((x.toUInt64 >>> (z &&& 0x3f).toInt64.toUInt64).toInt64) :: S)))) : Goes p e below s n0 kc ks Q (T.setTop (mkF m pc L (.int z :: .long x :: S))) := by
  obtain ⟨⟨hx, rfl, rfl, hown, hnm, rfl, hlk, hZ, hn0⟩, locs, X, rfl, N⟩ := P
  subst hp
  exact k.via fun t q => XS.lushr X.here hx rfl hd rfl q
theorem idiv (P : Pos Z y bytes maxL ret n0 p l e R s m args below meth c T h cells slots) {x z : Int32} (hd : decode bytes pc = .ok (.idiv, 1)) (hz : z ≠ 0) (hp : pc + 1 = pc') (k : Goes p e below s n0 kc ks Q (T.setTop (mkF m pc' L (.int (x / z) :: S)))) : Goes p e below s n0 kc ks Q (T.setTop (mkF m pc L (.int z :: .int x :: S))) := by
  obtain ⟨⟨hx, rfl, rfl, hown, hnm, rfl, hlk, hZ, hn0⟩, locs, X, rfl, N⟩ := P
  subst hp
  exact k.via fun t q => XS.idiv X.here hx rfl hd rfl hz q
theorem irem (P : Pos Z y bytes maxL ret n0 p l e R s m args below meth c T h cells slots) {x z : Int32} (hd : decode bytes pc = .ok (.irem, 1)) (hz : z ≠ 0) (hp : pc + 1 = pc') (k : Goes p e below s n0 kc ks Q (T.setTop (mkF m pc' L (.int (x % z) :: S)))) : Goes p e below s n0 kc ks Q (T.setTop (mkF m pc L (.int z :: .int x :: S))) := by
  obtain ⟨⟨hx, rfl, rfl, hown, hnm, rfl, hlk, hZ, hn0⟩, locs, X, rfl, N⟩ := P
  subst hp
  exact k.via fun t q => iremM X hx rfl hd rfl hz q
theorem ldiv (P : Pos Z y bytes maxL ret n0 p l e R s m args below meth c T h cells slots) {x z : Int64} (hd : decode bytes pc = .ok (.ldiv, 1)) (hz : z ≠ 0) (hp : pc + 1 = pc') (k : Goes p e below s n0 kc ks Q (T.setTop (mkF m pc' L (.long (x / z) :: S)))) : Goes p e below s n0 kc ks Q (T.setTop (mkF m pc L (.long z :: .long x :: S))) := by
  obtain ⟨⟨hx, rfl, rfl, hown, hnm, rfl, hlk, hZ, hn0⟩, locs, X, rfl, N⟩ := P
  subst hp
  exact k.via fun t q => XS.ldiv X.here hx rfl hd rfl hz q
theorem lrem (P : Pos Z y bytes maxL ret n0 p l e R s m args below meth c T h cells slots) {x z : Int64} (hd : decode bytes pc = .ok (.lrem, 1)) (hz : z ≠ 0) (hp : pc + 1 = pc') (k : Goes p e below s n0 kc ks Q (T.setTop (mkF m pc' L (.long (x % z) :: S)))) : Goes p e below s n0 kc ks Q (T.setTop (mkF m pc L (.long z :: .long x :: S))) := by
  obtain ⟨⟨hx, rfl, rfl, hown, hnm, rfl, hlk, hZ, hn0⟩, locs, X, rfl, N⟩ := P
  subst hp
  exact k.via fun t q => XS.lrem X.here hx rfl hd rfl hz (by rw [lrem_mod]; exact q)
theorem ineg (P : Pos Z y bytes maxL ret n0 p l e R s m args below meth c T h cells slots) {x : Int32} (hd : decode bytes pc = .ok (.ineg, 1)) (hp : pc + 1 = pc') (k : Goes p e below s n0 kc ks Q (T.setTop (mkF m pc' L (.int (-x) :: S)))) : Goes p e below s n0 kc ks Q (T.setTop (mkF m pc L (.int x :: S))) := by
  obtain ⟨⟨hx, rfl, rfl, hown, hnm, rfl, hlk, hZ, hn0⟩, locs, X, rfl, N⟩ := P
  subst hp
  exact k.via fun t q => XS.ineg X.here hx rfl hd rfl q
theorem lneg (P : Pos Z y bytes maxL ret n0 p l e R s m args below meth c T h cells slots) {x : Int64} (hd : decode bytes pc = .ok (.lneg, 1)) (hp : pc + 1 = pc') (k : Goes p e below s n0 kc ks Q (T.setTop (mkF m pc' L (.long (-x) :: S)))) : Goes p e below s n0 kc ks Q (T.setTop (mkF m pc L (.long x :: S))) := by
  obtain ⟨⟨hx, rfl, rfl, hown, hnm, rfl, hlk, hZ, hn0⟩, locs, X, rfl, N⟩ := P
  subst hp
  exact k.via fun t q => XS.lneg X.here hx rfl hd rfl q
theorem i2l (P : Pos Z y bytes maxL ret n0 p l e R s m args below meth c T h cells slots) {x : Int32} (hd : decode bytes pc = .ok (.i2l, 1)) (hp : pc + 1 = pc') (k : Goes p e below s n0 kc ks Q (T.setTop (mkF m pc' L (.long (x.toInt64) :: S)))) : Goes p e below s n0 kc ks Q (T.setTop (mkF m pc L (.int x :: S))) := by
  obtain ⟨⟨hx, rfl, rfl, hown, hnm, rfl, hlk, hZ, hn0⟩, locs, X, rfl, N⟩ := P
  subst hp
  exact k.via fun t q => XS.i2l X.here hx rfl hd rfl q
theorem l2i (P : Pos Z y bytes maxL ret n0 p l e R s m args below meth c T h cells slots) {x : Int64} (hd : decode bytes pc = .ok (.l2i, 1)) (hp : pc + 1 = pc') (k : Goes p e below s n0 kc ks Q (T.setTop (mkF m pc' L (.int (x.toInt32) :: S)))) : Goes p e below s n0 kc ks Q (T.setTop (mkF m pc L (.long x :: S))) := by
  obtain ⟨⟨hx, rfl, rfl, hown, hnm, rfl, hlk, hZ, hn0⟩, locs, X, rfl, N⟩ := P
  subst hp
  exact k.via fun t q => XS.l2i X.here hx rfl hd rfl q
theorem i2b (P : Pos Z y bytes maxL ret n0 p l e R s m args below meth c T h cells slots) {x : Int32} (hd : decode bytes pc = .ok (.i2b, 1)) (hp : pc + 1 = pc') (k : Goes p e below s n0 kc ks Q (T.setTop (mkF m pc' L (.int (x.toInt8.toInt32) :: S)))) : Goes p e below s n0 kc ks Q (T.setTop (mkF m pc L (.int x :: S))) := by
  obtain ⟨⟨hx, rfl, rfl, hown, hnm, rfl, hlk, hZ, hn0⟩, locs, X, rfl, N⟩ := P
  subst hp
  exact k.via fun t q => XS.i2b X.here hx rfl hd rfl q
theorem i2s (P : Pos Z y bytes maxL ret n0 p l e R s m args below meth c T h cells slots) {x : Int32} (hd : decode bytes pc = .ok (.i2s, 1)) (hp : pc + 1 = pc') (k : Goes p e below s n0 kc ks Q (T.setTop (mkF m pc' L (.int (x.toInt16.toInt32) :: S)))) : Goes p e below s n0 kc ks Q (T.setTop (mkF m pc L (.int x :: S))) := by
  obtain ⟨⟨hx, rfl, rfl, hown, hnm, rfl, hlk, hZ, hn0⟩, locs, X, rfl, N⟩ := P
  subst hp
  exact k.via fun t q => XS.i2s X.here hx rfl hd rfl q
theorem i2c (P : Pos Z y bytes maxL ret n0 p l e R s m args below meth c T h cells slots) {x : Int32} (hd : decode bytes pc = .ok (.i2c, 1)) (hp : pc + 1 = pc') (k : Goes p e below s n0 kc ks Q (T.setTop (mkF m pc' L (.int (x.toUInt32.toUInt16.toUInt32.toInt32) :: S)))) : Goes p e below s n0 kc ks Q (T.setTop (mkF m pc L (.int x :: S))) := by
  obtain ⟨⟨hx, rfl, rfl, hown, hnm, rfl, hlk, hZ, hn0⟩, locs, X, rfl, N⟩ := P
  subst hp
  exact k.via fun t q => XS.i2c X.here hx rfl hd rfl q
theorem lcmp (P : Pos Z y bytes maxL ret n0 p l e R s m args below meth c T h cells slots) {x z : Int64} (hd : decode bytes pc = .ok (.lcmp, 1)) (hp : pc + 1 = pc') (k : Goes p e below s n0 kc ks Q (T.setTop (mkF m pc' L (.int (lcmpW x z) :: S)))) : Goes p e below s n0 kc ks Q (T.setTop (mkF m pc L (.long z :: .long x :: S))) := by
  obtain ⟨⟨hx, rfl, rfl, hown, hnm, rfl, hlk, hZ, hn0⟩, locs, X, rfl, N⟩ := P
  subst hp
  exact k.via fun t q => XS.lcmp X.here hx rfl hd rfl q
theorem iinc (P : Pos Z y bytes maxL ret n0 p l e R s m args below meth c T h cells slots) {k : Nat} {i : Int} {x v' : Int32} (hd : decode bytes pc = .ok (.iinc k i, 3)) (hl : L[k]? = some (.val (.int x))) (hv : x + Int32.ofInt i = v') (hl' : storeLocals L k (.int v') = some L') (hp : pc + 3 = pc') (k : Goes p e below s n0 kc ks Q (T.setTop (mkF m pc' L' S))) : Goes p e below s n0 kc ks Q (T.setTop (mkF m pc L S)) := by
  obtain ⟨⟨hx, rfl, rfl, hown, hnm, rfl, hlk, hZ, hn0⟩, locs, X, rfl, N⟩ := P
  subst hp hv
  exact k.via fun t q => XS.iinc X.here hx rfl hd hl hl' q
theorem dup (P : Pos Z y bytes maxL ret n0 p l e R s m args below meth c T h cells slots) {v : Value} (hd : decode bytes pc = .ok (.dup, 1)) (hc : v.category = 1) (hp : pc + 1 = pc') (k : Goes p e below s n0 kc ks Q (T.setTop (mkF m pc' L (v :: v :: S)))) : Goes p e below s n0 kc ks Q (T.setTop (mkF m pc L (v :: S))) := by
  obtain ⟨⟨hx, rfl, rfl, hown, hnm, rfl, hlk, hZ, hn0⟩, locs, X, rfl, N⟩ := P
  subst hp
  exact k.via fun t q => XS.dup X.here hx rfl hd rfl hc q
theorem pop (P : Pos Z y bytes maxL ret n0 p l e R s m args below meth c T h cells slots) {v : Value} (hd : decode bytes pc = .ok (.pop, 1)) (hc : v.category = 1) (hp : pc + 1 = pc') (k : Goes p e below s n0 kc ks Q (T.setTop (mkF m pc' L S))) : Goes p e below s n0 kc ks Q (T.setTop (mkF m pc L (v :: S))) := by
  obtain ⟨⟨hx, rfl, rfl, hown, hnm, rfl, hlk, hZ, hn0⟩, locs, X, rfl, N⟩ := P
  subst hp
  exact k.via fun t q => XS.pop X.here hx rfl hd rfl hc q
theorem dupX1 (P : Pos Z y bytes maxL ret n0 p l e R s m args below meth c T h cells slots) {v u : Value} (hd : decode bytes pc = .ok (.dup_x1, 1)) (hc : v.category = 1) (hc' : u.category = 1) (hp : pc + 1 = pc') (k : Goes p e below s n0 kc ks Q (T.setTop (mkF m pc' L (v :: u :: v :: S)))) : Goes p e below s n0 kc ks Q (T.setTop (mkF m pc L (v :: u :: S))) := by
  obtain ⟨⟨hx, rfl, rfl, hown, hnm, rfl, hlk, hZ, hn0⟩, locs, X, rfl, N⟩ := P
  subst hp
  exact k.via fun t q => XS.dupX1 X.here hx rfl hd rfl hc hc' q
theorem dup2 (P : Pos Z y bytes maxL ret n0 p l e R s m args below meth c T h cells slots) {v u : Value} (hd : decode bytes pc = .ok (.dup2, 1)) (hc : v.category = 1) (hc' : u.category = 1) (hp : pc + 1 = pc') (k : Goes p e below s n0 kc ks Q (T.setTop (mkF m pc' L (v :: u :: v :: u :: S)))) : Goes p e below s n0 kc ks Q (T.setTop (mkF m pc L (v :: u :: S))) := by
  obtain ⟨⟨hx, rfl, rfl, hown, hnm, rfl, hlk, hZ, hn0⟩, locs, X, rfl, N⟩ := P
  subst hp
  exact k.via fun t q => XT.dup2 X.here hx rfl hd rfl hc hc' q
theorem pop2L (P : Pos Z y bytes maxL ret n0 p l e R s m args below meth c T h cells slots) {v : Int64} (hd : decode bytes pc = .ok (.pop2, 1)) (hp : pc + 1 = pc') (k : Goes p e below s n0 kc ks Q (T.setTop (mkF m pc' L S))) : Goes p e below s n0 kc ks Q (T.setTop (mkF m pc L (.long v :: S))) := by
  obtain ⟨⟨hx, rfl, rfl, hown, hnm, rfl, hlk, hZ, hn0⟩, locs, X, rfl, N⟩ := P
  subst hp
  refine k.via fun t q => ?_
  jvm_step X.here [X.here.top, hx, hd, Value.category]
  exact q
theorem goto (P : Pos Z y bytes maxL ret n0 p l e R s m args below meth c T h cells slots) {o : Int} (hd : decode bytes pc = .ok (.goto o, 3)) (ho : 0 ≤ (pc : Int) + o) (hp : ((pc : Int) + o).toNat = pc') (k : Goes p e below s n0 kc ks Q (T.setTop (mkF m pc' L S))) : Goes p e below s n0 kc ks Q (T.setTop (mkF m pc L S)) := by
  obtain ⟨⟨hx, rfl, rfl, hown, hnm, rfl, hlk, hZ, hn0⟩, locs, X, rfl, N⟩ := P
  exact k.via fun t q => XS.goto X.here hx rfl (pc0 := pc) (pc' := pc') rfl hd ho hp q
theorem icmp_lt (P : Pos Z y bytes maxL ret n0 p l e R s m args below meth c T h cells slots) {x z : Int32} {o : Int} (hd : decode bytes pc = .ok (.if_icmp .lt o, 3)) (ho : 0 ≤ (pc : Int) + o) (hY : ((pc : Int) + o).toNat = pcY) (hN : pc + 3 = pcN) (kY : x < z → Goes p e below s n0 kc ks Q (T.setTop (mkF m pcY L S))) (kN : ¬ x < z → Goes p e below s n0 kc ks Q (T.setTop (mkF m pcN L S))) : Goes p e below s n0 kc ks Q (T.setTop (mkF m pc L (.int z :: .int x :: S))) := by
  obtain ⟨⟨hx, rfl, rfl, hown, hnm, rfl, hlk, hZ, hn0⟩, locs, X, rfl, N⟩ := P
  by_cases q : x < z
  · exact (kY q).via fun t r => XS.icmpYes X.here hx rfl (pc0 := pc) (pc' := pcY) rfl hd rfl (tlt q).1 ho hY r
  · subst hN
    exact (kN q).via fun t r => XS.icmpNo X.here hx rfl hd rfl (flt q).1 r
theorem if_lt (P : Pos Z y bytes maxL ret n0 p l e R s m args below meth c T h cells slots) {x : Int32} {o : Int} (hd : decode bytes pc = .ok (.ifCond .lt o, 3)) (ho : 0 ≤ (pc : Int) + o) (hY : ((pc : Int) + o).toNat = pcY) (hN : pc + 3 = pcN) (kY : x < 0 → Goes p e below s n0 kc ks Q (T.setTop (mkF m pcY L S))) (kN : ¬ x < 0 → Goes p e below s n0 kc ks Q (T.setTop (mkF m pcN L S))) : Goes p e below s n0 kc ks Q (T.setTop (mkF m pc L (.int x :: S))) := by
  obtain ⟨⟨hx, rfl, rfl, hown, hnm, rfl, hlk, hZ, hn0⟩, locs, X, rfl, N⟩ := P
  by_cases q : x < 0
  · exact (kY q).via fun t r => XS.ifYes X.here hx rfl (pc0 := pc) (pc' := pcY) rfl hd rfl ((if0 _ _).trans (tlt q).1) ho hY r
  · subst hN
    exact (kN q).via fun t r => XS.ifNo X.here hx rfl hd rfl ((if0 _ _).trans (flt q).1) r
theorem icmp_ge (P : Pos Z y bytes maxL ret n0 p l e R s m args below meth c T h cells slots) {x z : Int32} {o : Int} (hd : decode bytes pc = .ok (.if_icmp .ge o, 3)) (ho : 0 ≤ (pc : Int) + o) (hY : ((pc : Int) + o).toNat = pcY) (hN : pc + 3 = pcN) (kY : ¬ x < z → Goes p e below s n0 kc ks Q (T.setTop (mkF m pcY L S))) (kN : x < z → Goes p e below s n0 kc ks Q (T.setTop (mkF m pcN L S))) : Goes p e below s n0 kc ks Q (T.setTop (mkF m pc L (.int z :: .int x :: S))) := by
  obtain ⟨⟨hx, rfl, rfl, hown, hnm, rfl, hlk, hZ, hn0⟩, locs, X, rfl, N⟩ := P
  by_cases q : x < z
  · subst hN
    exact (kN q).via fun t r => XS.icmpNo X.here hx rfl hd rfl (tlt q).2.1 r
  · exact (kY q).via fun t r => XS.icmpYes X.here hx rfl (pc0 := pc) (pc' := pcY) rfl hd rfl (flt q).2.1 ho hY r
theorem if_ge (P : Pos Z y bytes maxL ret n0 p l e R s m args below meth c T h cells slots) {x : Int32} {o : Int} (hd : decode bytes pc = .ok (.ifCond .ge o, 3)) (ho : 0 ≤ (pc : Int) + o) (hY : ((pc : Int) + o).toNat = pcY) (hN : pc + 3 = pcN) (kY : ¬ x < 0 → Goes p e below s n0 kc ks Q (T.setTop (mkF m pcY L S))) (kN : x < 0 → Goes p e below s n0 kc ks Q (T.setTop (mkF m pcN L S))) : Goes p e below s n0 kc ks Q (T.setTop (mkF m pc L (.int x :: S))) := by
  obtain ⟨⟨hx, rfl, rfl, hown, hnm, rfl, hlk, hZ, hn0⟩, locs, X, rfl, N⟩ := P
  by_cases q : x < 0
  · subst hN
    exact (kN q).via fun t r => XS.ifNo X.here hx rfl hd rfl ((if0 _ _).trans (tlt q).2.1) r
  · exact (kY q).via fun t r => XS.ifYes X.here hx rfl (pc0 := pc) (pc' := pcY) rfl hd rfl ((if0 _ _).trans (flt q).2.1) ho hY r
theorem icmp_gt (P : Pos Z y bytes maxL ret n0 p l e R s m args below meth c T h cells slots) {x z : Int32} {o : Int} (hd : decode bytes pc = .ok (.if_icmp .gt o, 3)) (ho : 0 ≤ (pc : Int) + o) (hY : ((pc : Int) + o).toNat = pcY) (hN : pc + 3 = pcN) (kY : z < x → Goes p e below s n0 kc ks Q (T.setTop (mkF m pcY L S))) (kN : ¬ z < x → Goes p e below s n0 kc ks Q (T.setTop (mkF m pcN L S))) : Goes p e below s n0 kc ks Q (T.setTop (mkF m pc L (.int z :: .int x :: S))) := by
  obtain ⟨⟨hx, rfl, rfl, hown, hnm, rfl, hlk, hZ, hn0⟩, locs, X, rfl, N⟩ := P
  by_cases q : z < x
  · exact (kY q).via fun t r => XS.icmpYes X.here hx rfl (pc0 := pc) (pc' := pcY) rfl hd rfl (tlt q).2.2.1 ho hY r
  · subst hN
    exact (kN q).via fun t r => XS.icmpNo X.here hx rfl hd rfl (flt q).2.2.1 r
theorem if_gt (P : Pos Z y bytes maxL ret n0 p l e R s m args below meth c T h cells slots) {x : Int32} {o : Int} (hd : decode bytes pc = .ok (.ifCond .gt o, 3)) (ho : 0 ≤ (pc : Int) + o) (hY : ((pc : Int) + o).toNat = pcY) (hN : pc + 3 = pcN) (kY : 0 < x → Goes p e below s n0 kc ks Q (T.setTop (mkF m pcY L S))) (kN : ¬ 0 < x → Goes p e below s n0 kc ks Q (T.setTop (mkF m pcN L S))) : Goes p e below s n0 kc ks Q (T.setTop (mkF m pc L (.int x :: S))) := by
  obtain ⟨⟨hx, rfl, rfl, hown, hnm, rfl, hlk, hZ, hn0⟩, locs, X, rfl, N⟩ := P
  by_cases q : 0 < x
  · exact (kY q).via fun t r => XS.ifYes X.here hx rfl (pc0 := pc) (pc' := pcY) rfl hd rfl ((if0 _ _).trans (tlt q).2.2.1) ho hY r
  · subst hN
    exact (kN q).via fun t r => XS.ifNo X.here hx rfl hd rfl ((if0 _ _).trans (flt q).2.2.1) r
theorem icmp_le (P : Pos Z y bytes maxL ret n0 p l e R s m args below meth c T h cells slots) {x z : Int32} {o : Int} (hd : decode bytes pc = .ok (.if_icmp .le o, 3)) (ho : 0 ≤ (pc : Int) + o) (hY : ((pc : Int) + o).toNat = pcY) (hN : pc + 3 = pcN) (kY : ¬ z < x → Goes p e below s n0 kc ks Q (T.setTop (mkF m pcY L S))) (kN : z < x → Goes p e below s n0 kc ks Q (T.setTop (mkF m pcN L S))) : Goes p e below s n0 kc ks Q (T.setTop (mkF m pc L (.int z :: .int x :: S))) := by
  obtain ⟨⟨hx, rfl, rfl, hown, hnm, rfl, hlk, hZ, hn0⟩, locs, X, rfl, N⟩ := P
  by_cases q : z < x
  · subst hN
    exact (kN q).via fun t r => XS.icmpNo X.here hx rfl hd rfl (tlt q).2.2.2 r
  · exact (kY q).via fun t r => XS.icmpYes X.here hx rfl (pc0 := pc) (pc' := pcY) rfl hd rfl (flt q).2.2.2 ho hY r
theorem if_le (P : Pos Z y bytes maxL ret n0 p l e R s m args below meth c T h cells slots) {x : Int32} {o : Int} (hd : decode bytes pc = .ok (.ifCond .le o, 3)) (ho : 0 ≤ (pc : Int) + o) (hY : ((pc : Int) + o).toNat = pcY) (hN : pc + 3 = pcN) (kY : ¬ 0 < x → Goes p e below s n0 kc ks Q (T.setTop (mkF m pcY L S))) (kN : 0 < x → Goes p e below s n0 kc ks Q (T.setTop (mkF m pcN L S))) : Goes p e below s n0 kc ks Q (T.setTop (mkF m pc L (.int x :: S))) := by
  obtain ⟨⟨hx, rfl, rfl, hown, hnm, rfl, hlk, hZ, hn0⟩, locs, X, rfl, N⟩ := P
  by_cases q : 0 < x
  · subst hN
    exact (kN q).via fun t r => XS.ifNo X.here hx rfl hd rfl ((if0 _ _).trans (tlt q).2.2.2) r
  · exact (kY q).via fun t r => XS.ifYes X.here hx rfl (pc0 := pc) (pc' := pcY) rfl hd rfl ((if0 _ _).trans (flt q).2.2.2) ho hY r
theorem icmp_eq (P : Pos Z y bytes maxL ret n0 p l e R s m args below meth c T h cells slots) {x z : Int32} {o : Int} (hd : decode bytes pc = .ok (.if_icmp .eq o, 3)) (ho : 0 ≤ (pc : Int) + o) (hY : ((pc : Int) + o).toNat = pcY) (hN : pc + 3 = pcN) (kY : x = z → Goes p e below s n0 kc ks Q (T.setTop (mkF m pcY L S))) (kN : ¬ x = z → Goes p e below s n0 kc ks Q (T.setTop (mkF m pcN L S))) : Goes p e below s n0 kc ks Q (T.setTop (mkF m pc L (.int z :: .int x :: S))) := by
  obtain ⟨⟨hx, rfl, rfl, hown, hnm, rfl, hlk, hZ, hn0⟩, locs, X, rfl, N⟩ := P
  by_cases q : x = z
  · exact (kY q).via fun t r => XS.icmpYes X.here hx rfl (pc0 := pc) (pc' := pcY) rfl hd rfl (teq q).1 ho hY r
  · subst hN
    exact (kN q).via fun t r => XS.icmpNo X.here hx rfl hd rfl (feq q).1 r
theorem if_eq (P : Pos Z y bytes maxL ret n0 p l e R s m args below meth c T h cells slots) {x : Int32} {o : Int} (hd : decode bytes pc = .ok (.ifCond .eq o, 3)) (ho : 0 ≤ (pc : Int) + o) (hY : ((pc : Int) + o).toNat = pcY) (hN : pc + 3 = pcN) (kY : x = 0 → Goes p e below s n0 kc ks Q (T.setTop (mkF m pcY L S))) (kN : ¬ x = 0 → Goes p e below s n0 kc ks Q (T.setTop (mkF m pcN L S))) : Goes p e below s n0 kc ks Q (T.setTop (mkF m pc L (.int x :: S))) := by
  obtain ⟨⟨hx, rfl, rfl, hown, hnm, rfl, hlk, hZ, hn0⟩, locs, X, rfl, N⟩ := P
  by_cases q : x = 0
  · exact (kY q).via fun t r => XS.ifYes X.here hx rfl (pc0 := pc) (pc' := pcY) rfl hd rfl ((if0 _ _).trans (teq q).1) ho hY r
  · subst hN
    exact (kN q).via fun t r => XS.ifNo X.here hx rfl hd rfl ((if0 _ _).trans (feq q).1) r
theorem icmp_ne (P : Pos Z y bytes maxL ret n0 p l e R s m args below meth c T h cells slots) {x z : Int32} {o : Int} (hd : decode bytes pc = .ok (.if_icmp .ne o, 3)) (ho : 0 ≤ (pc : Int) + o) (hY : ((pc : Int) + o).toNat = pcY) (hN : pc + 3 = pcN) (kY : ¬ x = z → Goes p e below s n0 kc ks Q (T.setTop (mkF m pcY L S))) (kN : x = z → Goes p e below s n0 kc ks Q (T.setTop (mkF m pcN L S))) : Goes p e below s n0 kc ks Q (T.setTop (mkF m pc L (.int z :: .int x :: S))) := by
  obtain ⟨⟨hx, rfl, rfl, hown, hnm, rfl, hlk, hZ, hn0⟩, locs, X, rfl, N⟩ := P
  by_cases q : x = z
  · subst hN
    exact (kN q).via fun t r => XS.icmpNo X.here hx rfl hd rfl (teq q).2 r
  · exact (kY q).via fun t r => XS.icmpYes X.here hx rfl (pc0 := pc) (pc' := pcY) rfl hd rfl (feq q).2 ho hY r
theorem if_ne (P : Pos Z y bytes maxL ret n0 p l e R s m args below meth c T h cells slots) {x : Int32} {o : Int} (hd : decode bytes pc = .ok (.ifCond .ne o, 3)) (ho : 0 ≤ (pc : Int) + o) (hY : ((pc : Int) + o).toNat = pcY) (hN : pc + 3 = pcN) (kY : ¬ x = 0 → Goes p e below s n0 kc ks Q (T.setTop (mkF m pcY L S))) (kN : x = 0 → Goes p e below s n0 kc ks Q (T.setTop (mkF m pcN L S))) : Goes p e below s n0 kc ks Q (T.setTop (mkF m pc L (.int x :: S))) := by
  obtain ⟨⟨hx, rfl, rfl, hown, hnm, rfl, hlk, hZ, hn0⟩, locs, X, rfl, N⟩ := P
  by_cases q : x = 0
  · subst hN
    exact (kN q).via fun t r => XS.ifNo X.here hx rfl hd rfl ((if0 _ _).trans (teq q).2) r
  · exact (kY q).via fun t r => XS.ifYes X.here hx rfl (pc0 := pc) (pc' := pcY) rfl hd rfl ((if0 _ _).trans (feq q).2) ho hY r
theorem lif_lt (P : Pos Z y bytes maxL ret n0 p l e R s m args below meth c T h cells slots) {x z : Int64} {o : Int} (hd : decode bytes pc = .ok (.ifCond .lt o, 3)) (ho : 0 ≤ (pc : Int) + o) (hY : ((pc : Int) + o).toNat = pcY) (hN : pc + 3 = pcN) (kY : x < z → Goes p e below s n0 kc ks Q (T.setTop (mkF m pcY L S))) (kN : ¬ x < z → Goes p e below s n0 kc ks Q (T.setTop (mkF m pcN L S))) : Goes p e below s n0 kc ks Q (T.setTop (mkF m pc L (.int (lcmpW x z) :: S))) :=
  if_lt P hd ho hY hN (fun q => kY ((lw_lt x z).mp q)) (fun q => kN (mt (lw_lt x z).mpr q))
theorem lif_ge (P : Pos Z y bytes maxL ret n0 p l e R s m args below meth c T h cells slots) {x z : Int64} {o : Int} (hd : decode bytes pc = .ok (.ifCond .ge o, 3)) (ho : 0 ≤ (pc : Int) + o) (hY : ((pc : Int) + o).toNat = pcY) (hN : pc + 3 = pcN) (kY : ¬ x < z → Goes p e below s n0 kc ks Q (T.setTop (mkF m pcY L S))) (kN : x < z → Goes p e below s n0 kc ks Q (T.setTop (mkF m pcN L S))) : Goes p e below s n0 kc ks Q (T.setTop (mkF m pc L (.int (lcmpW x z) :: S))) :=
  if_ge P hd ho hY hN (fun q => kY (mt (lw_lt x z).mpr q)) (fun q => kN ((lw_lt x z).mp q))
theorem lif_gt (P : Pos Z y bytes maxL ret n0 p l e R s m args below meth c T h cells slots) {x z : Int64} {o : Int} (hd : decode bytes pc = .ok (.ifCond .gt o, 3)) (ho : 0 ≤ (pc : Int) + o) (hY : ((pc : Int) + o).toNat = pcY) (hN : pc + 3 = pcN) (kY : z < x → Goes p e below s n0 kc ks Q (T.setTop (mkF m pcY L S))) (kN : ¬ z < x → Goes p e below s n0 kc ks Q (T.setTop (mkF m pcN L S))) : Goes p e below s n0 kc ks Q (T.setTop (mkF m pc L (.int (lcmpW x z) :: S))) :=
  if_gt P hd ho hY hN (fun q => kY ((lw_gt x z).mp q)) (fun q => kN (mt (lw_gt x z).mpr q))
theorem lif_le (P : Pos Z y bytes maxL ret n0 p l e R s m args below meth c T h cells slots) {x z : Int64} {o : Int} (hd : decode bytes pc = .ok (.ifCond .le o, 3)) (ho : 0 ≤ (pc : Int) + o) (hY : ((pc : Int) + o).toNat = pcY) (hN : pc + 3 = pcN) (kY : ¬ z < x → Goes p e below s n0 kc ks Q (T.setTop (mkF m pcY L S))) (kN : z < x → Goes p e below s n0 kc ks Q (T.setTop (mkF m pcN L S))) : Goes p e below s n0 kc ks Q (T.setTop (mkF m pc L (.int (lcmpW x z) :: S))) :=
  if_le P hd ho hY hN (fun q => kY (mt (lw_gt x z).mpr q)) (fun q => kN ((lw_gt x z).mp q))
theorem lif_eq (P : Pos Z y bytes maxL ret n0 p l e R s m args below meth c T h cells slots) {x z : Int64} {o : Int} (hd : decode bytes pc = .ok (.ifCond .eq o, 3)) (ho : 0 ≤ (pc : Int) + o) (hY : ((pc : Int) + o).toNat = pcY) (hN : pc + 3 = pcN) (kY : x = z → Goes p e below s n0 kc ks Q (T.setTop (mkF m pcY L S))) (kN : ¬ x = z → Goes p e below s n0 kc ks Q (T.setTop (mkF m pcN L S))) : Goes p e below s n0 kc ks Q (T.setTop (mkF m pc L (.int (lcmpW x z) :: S))) :=
  if_eq P hd ho hY hN (fun q => kY ((lw_eq x z).mp q)) (fun q => kN (mt (lw_eq x z).mpr q))
theorem lif_ne (P : Pos Z y bytes maxL ret n0 p l e R s m args below meth c T h cells slots) {x z : Int64} {o : Int} (hd : decode bytes pc = .ok (.ifCond .ne o, 3)) (ho : 0 ≤ (pc : Int) + o) (hY : ((pc : Int) + o).toNat = pcY) (hN : pc + 3 = pcN) (kY : ¬ x = z → Goes p e below s n0 kc ks Q (T.setTop (mkF m pcY L S))) (kN : x = z → Goes p e below s n0 kc ks Q (T.setTop (mkF m pcN L S))) : Goes p e below s n0 kc ks Q (T.setTop (mkF m pc L (.int (lcmpW x z) :: S))) :=
  if_ne P hd ho hY hN (fun q => kY (mt (lw_eq x z).mpr q)) (fun q => kN ((lw_eq x z).mp q))
theorem ldcI (P : Pos Z y bytes maxL ret n0 p l e R s m args below meth c T h cells slots) {i : Nat} {v : Int32} (w : (Jvm.Cond.constant y.cls i v).before a0 Z = true) (hd : decode bytes pc = .ok (.ldc i, 2)) (hp : pc + 2 = pc') (k : Goes p e below s n0 kc ks Q (T.setTop (mkF m pc' L (.int v :: S)))) : Goes p e below s n0 kc ks Q (T.setTop (mkF m pc L S)) := by
  obtain ⟨⟨hx, rfl, rfl, hown, hnm, rfl, hlk, hZ, hn0⟩, locs, X, rfl, N⟩ := P
  subst hp
  exact k.via fun t q => X.ldcInt hx hown (mvT hZ w) (g := mkF m pc L S) rfl hd _ q
theorem ldc2 (P : Pos Z y bytes maxL ret n0 p l e R s m args below meth c T h cells slots) {i : Nat} {v : Int64} (w : (Jvm.Cond.constantLong y.cls i v).before a0 Z = true) (hd : decode bytes pc = .ok (.ldc2_w i, 3)) (hp : pc + 3 = pc') (k : Goes p e below s n0 kc ks Q (T.setTop (mkF m pc' L (.long v :: S)))) : Goes p e below s n0 kc ks Q (T.setTop (mkF m pc L S)) := by
  obtain ⟨⟨hx, rfl, rfl, hown, hnm, rfl, hlk, hZ, hn0⟩, locs, X, rfl, N⟩ := P
  subst hp
  exact k.via fun t q => X.ldc2Long hx hown (mvT hZ w) (g := mkF m pc L S) rfl hd _ q
theorem ireturn (P : Pos Z y bytes maxL ret n0 p l e R s m args below meth c T h cells slots) {z : Int32} (hr' : ret = some .int) (hd : decode bytes pc = .ok (.ireturn, 1)) (hk1 : cells ≤ kc) (hk2 : slots ≤ ks) (hQ : Q (some (.int z)) h) : Goes p e below s n0 kc ks Q (T.setTop (mkF m pc L (.int z :: S))) := by
  obtain ⟨⟨hx, rfl, rfl, hown, hnm, rfl, hlk, hZ, hn0⟩, locs, X, rfl, N⟩ := P
  obtain ⟨fs, hr, hrun, hended, hW, hsame⟩ := X.leave (v := some (.int z)) (fun h => by rw [hr'] at h; cases h) (hlocks := hlk)
  exact ⟨_, _, retOut X hx hr' rfl (Or.inl ⟨rfl, Or.inl rfl, _, rfl⟩) hd hr, hrun, hended, _, _, rfl, ⟨hQ, N⟩, ⟨_, rfl⟩, hW, hsame.mono hk1 hk2⟩
theorem ireturnN (P : Pos Z y bytes maxL ret n0 p l e R s m args below meth c T h cells slots) {z z' : Int32} {t : FieldType} (hr' : ret = some t) (ht : t = .boolean ∨ t = .byte ∨ t = .char ∨ t = .short) (hz : nar t z = z') (hd : decode bytes pc = .ok (.ireturn, 1)) (hk1 : cells ≤ kc) (hk2 : slots ≤ ks) (hQ : Q (some (.int z')) h) : Goes p e below s n0 kc ks Q (T.setTop (mkF m pc L (.int z :: S))) := by
  obtain ⟨⟨hx, rfl, rfl, hown, hnm, rfl, hlk, hZ, hn0⟩, locs, X, rfl, N⟩ := P
  subst hz
  obtain ⟨fs, hr, hrun, hended, hW, hsame⟩ := X.leave (v := some (.int (nar t z))) (fun h => by rw [hr'] at h; cases h) (hlocks := hlk)
  exact ⟨_, _, retN X hx hr' ht hd hr, hrun, hended, _, _, rfl, ⟨hQ, N⟩, ⟨_, rfl⟩, hW, hsame.mono hk1 hk2⟩
theorem lreturn (P : Pos Z y bytes maxL ret n0 p l e R s m args below meth c T h cells slots) {z : Int64} (hr' : ret = some .long) (hd : decode bytes pc = .ok (.lreturn, 1)) (hk1 : cells ≤ kc) (hk2 : slots ≤ ks) (hQ : Q (some (.long z)) h) : Goes p e below s n0 kc ks Q (T.setTop (mkF m pc L (.long z :: S))) := by
  obtain ⟨⟨hx, rfl, rfl, hown, hnm, rfl, hlk, hZ, hn0⟩, locs, X, rfl, N⟩ := P
  obtain ⟨fs, hr, hrun, hended, hW, hsame⟩ := X.leave (v := some (.long z)) (fun h => by rw [hr'] at h; cases h) (hlocks := hlk)
  exact ⟨_, _, retOut X hx hr' rfl (Or.inr (Or.inl ⟨rfl, rfl, _, rfl⟩)) hd hr, hrun, hended, _, _, rfl, ⟨hQ, N⟩, ⟨_, rfl⟩, hW, hsame.mono hk1 hk2⟩
theorem areturn (P : Pos Z y bytes maxL ret n0 p l e R s m args below meth c T h cells slots) {v : Value} {t : FieldType} (hr' : ret = some t) (ht : t.isReference = true) (hv : v.isRef = true) (hn : narrow t v = v) (hd : decode bytes pc = .ok (.areturn, 1)) (hk1 : cells ≤ kc) (hk2 : slots ≤ ks) (hQ : Q (some v) h) : Goes p e below s n0 kc ks Q (T.setTop (mkF m pc L (v :: S))) := by
  obtain ⟨⟨hx, rfl, rfl, hown, hnm, rfl, hlk, hZ, hn0⟩, locs, X, rfl, N⟩ := P
  obtain ⟨fs, hr, hrun, hended, hW, hsame⟩ := X.leave (v := some v) (fun h => by rw [hr'] at h; cases h) (hlocks := hlk)
  exact ⟨_, _, retOut X hx hr' hn (Or.inr (Or.inr (Or.inr (Or.inr ⟨rfl, ht, hv⟩)))) hd hr, hrun, hended, _, _, rfl, ⟨hQ, N⟩, ⟨_, rfl⟩, hW, hsame.mono hk1 hk2⟩
theorem return_ (P : Pos Z y bytes maxL ret n0 p l e R s m args below meth c T h cells slots) (hr' : ret = none) (hd : decode bytes pc = .ok (.return_, 1)) (hk1 : cells ≤ kc) (hk2 : slots ≤ ks) (hQ : Q none h) : Goes p e below s n0 kc ks Q (T.setTop (mkF m pc L [])) := by
  obtain ⟨⟨hx, rfl, rfl, hown, hnm, rfl, hlk, hZ, hn0⟩, locs, X, rfl, N⟩ := P
  obtain ⟨fs, hr, hrun, hended, hW, hsame⟩ := X.leave (v := none) (fun _ => rfl) (hlocks := hlk)
  exact ⟨_, _, X.returnOut hx hr' hd hr, hrun, hended, _, _, rfl, ⟨hQ, N⟩, ⟨_, rfl⟩, hW, hsame.mono hk1 hk2⟩
theorem getF (P : Pos Z y bytes maxL ret n0 p l e R s m args below meth c T h cells slots) {R0 O n d host : String} {i : Nat} {a : Addr} {v : Value} (w : (Jvm.Cond.fieldLink y.cls i R0 n d).before a0 Z = true ∨ (Jvm.Cond.fieldLinkNest y.cls i R0 n d host).before a0 Z = true) (via : Via Z R0 O n d) (F : Fld Z h a O n d v) (hd : decode bytes pc = .ok (.getfield i, 3)) (hp : pc + 3 = pc') (k : ∀ T', Pos Z y bytes maxL ret n0 p l e R s m args below meth c T' h cells slots → Goes p e below s n0 kc ks Q (T'.setTop (mkF m pc' L (v :: S)))) : Goes p e below s n0 kc ks Q (T.setTop (mkF m pc L (.ref a :: S))) := by
  obtain ⟨⟨hx, rfl, rfl, hown, hnm, rfl, hlk, hZ, hn0⟩, locs, X, rfl, N⟩ := P
  subst hp
  obtain ⟨T', X', e', st⟩ := Jvm.RoadKit.getF X hx hZ hown w via rfl F (g := mkF m pc L (.ref a :: S)) rfl rfl hd
  exact (k T' ⟨⟨hx, rfl, rfl, hown, hnm, rfl, hlk, hZ, hn0⟩, locs, X', e', N⟩).via st
theorem putF (P : Pos Z y bytes maxL ret n0 p l e R s m args below meth c T h cells slots) {R0 O n d host C : String} {i kk : Nat} {ty : FieldType} {a : Addr} {v old : Value} (w : (Jvm.Cond.fieldLink y.cls i R0 n d).before a0 Z = true ∨ (Jvm.Cond.fieldLinkNest y.cls i R0 n d host).before a0 Z = true) (via : Via Z R0 O n d) (F : Fld Z h a O n d old) (E : Exa Z h a C) (W : (Jvm.Cond.lays C O n d).before a0 Z = true ∨ ((Jvm.Cond.laysFinal C O n d).before a0 Z = true ∧ y.cls = O ∧ y.name = "<init>")) (wi : (Jvm.Cond.instantiable C kk).before a0 Z = true) (hty : parseFieldDescriptor d = some ty) (hn : narrow ty v = v) (hf : fits ty v = true) (hg : n0 ≤ a) (hd : decode bytes pc = .ok (.putfield i, 3)) (hp : pc + 3 = pc') (k : ∀ T' h', Pos Z y bytes maxL ret n0 p l e R s m args below meth c T' h' cells slots → Wr h h' a (RoadKit.slotOf Z O n d) v → Goes p e below s n0 kc ks Q (T'.setTop (mkF m pc' L S))) : Goes p e below s n0 kc ks Q (T.setTop (mkF m pc L (v :: .ref a :: S))) := by
  obtain ⟨⟨hx, rfl, rfl, hown, hnm, rfl, hlk, hZ, hn0⟩, locs, X, rfl, N⟩ := P
  subst hp
  obtain ⟨T', h', X', e', W', st⟩ := Jvm.RoadKit.putF X hx hZ hown w via rfl F E (W.imp id fun q => ⟨q.1, q.2.1, hnm.trans q.2.2⟩) wi hty hn hf (g := mkF m pc L (v :: .ref a :: S)) rfl rfl hd
  exact (k T' h' ⟨⟨hx, rfl, rfl, hown, hnm, rfl, hlk, hZ, hn0⟩, _, X', e', Fr.snoc X' N hg⟩ W').via st
theorem new (P : Pos Z y bytes maxL ret n0 p l e R s m args below meth c T h cells slots) {C : String} {i n : Nat} {cells' slots' : Nat} (w : (Jvm.Cond.classLink y.cls i C).before a0 Z = true) (wi : (Jvm.Cond.instantiable C n).before a0 Z = true) (wz : (Jvm.Cond.initialized C).before a0 Z = true) (hd : decode bytes pc = .ok (.new i, 3)) (hc : cells + 1 = cells') (hs : slots + n = slots') (hc' : cells' ≤ R.cells) (hs' : slots' ≤ R.slots) (hp : pc + 3 = pc') (k : ∀ T' h' b, b = h.size → n0 ≤ b → Pos Z y bytes maxL ret n0 p l e R s m args below meth c T' h' cells' slots' → Ext h h' → Exa Z h' b C → (∀ {O nm d : String} {ty : FieldType}, Laid Z a0 C O nm d → parseFieldDescriptor d = some ty → Fld Z h' b O nm d (defaultValue ty)) → Goes p e below s n0 kc ks Q (T'.setTop (mkF m pc' L (.ref b :: S)))) : Goes p e below s n0 kc ks Q (T.setTop (mkF m pc L S)) := by
  obtain ⟨⟨hx, rfl, rfl, hown, hnm, rfl, hlk, hZ, hn0⟩, locs, X, rfl, N⟩ := P
  subst hp hc hs
  obtain ⟨T', h', X', e', E', A', D', -, st⟩ := newO X hx hZ hown w wi wz rfl (g := mkF m pc L S) rfl hd hc' hs'
  exact (k T' h' _ rfl (Nat.le_trans hn0 X.same.2.1) ⟨⟨hx, rfl, rfl, hown, hnm, rfl, hlk, hZ, hn0⟩, _, X', e', N⟩ E' A' D').via st
theorem initO (P : Pos Z y bytes maxL ret n0 p l e R s m args below meth c T h cells slots) {i W : Nat} {a : Addr} (w1 : (Jvm.Cond.methodLink y.cls i Lib.objectInit).before a0 Z = true) (w2 : (Jvm.Cond.instanceMethod Lib.objectInit).before a0 Z = true) (w3 : (Jvm.Cond.code Lib.objectInit ⟨#[0xb1]⟩ 1 none).before a0 Z = true) (hsz : L.size = maxL) (hd : decode bytes pc = .ok (.invokespecial i, 3)) (hf : 1 ≤ R.frames) (hW : (S.map fun v => v.category).sum ≤ W) (hl : W + 12 ≤ R.locals) (hp : pc + 3 = pc') (k : ∀ T', Pos Z y bytes maxL ret n0 p l e R s m args below meth c T' h cells slots → Goes p e below s n0 kc ks Q (T'.setTop (mkF m pc' L S))) : Goes p e below s n0 kc ks Q (T.setTop (mkF m pc L (.ref a :: S))) := by
  obtain ⟨⟨hx, rfl, rfl, hown, hnm, rfl, hlk, hZ, hn0⟩, locs, X, rfl, N⟩ := P
  subst hp
  obtain ⟨T', X', e', st⟩ := Jvm.RoadKit.initO X hx hZ hown w1 w2 w3 rfl (g := mkF m pc L (.ref a :: S)) rfl hsz rfl hd hf (W := W) (by have q0 := hW; show 2 * 0 + _ ≤ _; omega) hl
  exact (k T' ⟨⟨hx, rfl, rfl, hown, hnm, rfl, hlk, hZ, hn0⟩, locs, X', e', N⟩).via st
theorem callS (P : Pos Z y bytes maxL ret n0 p l e R s m args below meth c T h cells slots) {y' : MethodName} {bytes' : ByteArray} {maxL' : Nat} {ret' : Option FieldType} {rm : Room} {i W cells' slots' : Nat} {argsL rest : List Value} {Q' : Option Value → Heap → Prop} (w1 : (Jvm.Cond.methodLink y.cls i y').before a0 Z = true) (w2 : (Jvm.Cond.static y').before a0 Z = true) (w3 : (Jvm.Cond.initialized y'.cls).before a0 Z = true) (w4 : (Jvm.Cond.code y' bytes' maxL' ret').before a0 Z = true) (hy : y'.cls ≠ "java/lang/invoke/MethodHandle" ∧ y'.cls ≠ "java/lang/invoke/VarHandle") (K : Con l Z y' bytes' maxL' ret' rm n0 argsL.toArray h Q') (hf : rm.frames + 1 ≤ R.frames) (hl : W + (maxL' + 11) + rm.locals ≤ R.locals) (hc : cells + rm.cells = cells') (hs : slots + rm.slots = slots') (hc' : cells' ≤ R.cells) (hs' : slots' ≤ R.slots) (hlen : ∀ sig, parseMethodDescriptor y'.desc = some sig → argsL.length = sig.parameters.length) (hsz : L.size = maxL) (hst : S = argsL.reverse ++ rest) (hW : (rest.map fun v => v.category).sum ≤ W) (hd : decode bytes pc = .ok (.invokestatic i, 3)) (hp : pc + 3 = pc') (k : ∀ T' h' v, Pos Z y bytes maxL ret n0 p l e R s m args below meth c T' h' cells' slots' → Q' v h' → Goes p e below s n0 kc ks Q (T'.setTop (mkF m pc' L (v.toList ++ rest)))) : Goes p e below s n0 kc ks Q (T.setTop (mkF m pc L S)) := by
  obtain ⟨⟨hx, rfl, rfl, hown, hnm, rfl, hlk, hZ, hn0⟩, locs, X, rfl, N⟩ := P
  subst hp hc hs hst
  obtain ⟨v, _, ⟨T', L1, k1, n1⟩, -, X', ⟨Lc, ⟨hQ, hN⟩, l1, y1, z1⟩, st⟩ := Jvm.LawKit.callS X hx hown (mvT hZ w1) (mvT hZ w2) (mvT hZ w3) (mvT hZ w4) hy (backOf (W := W) (Q := fun v h L => Q' v h ∧ Fr n0 L) (K []) hZ w4 w3 hf hl) (g := mkF m pc L (argsL.reverse ++ rest)) rfl hsz (argsL := argsL) (rest := rest) hlen rfl (by have q0 := hW; show 2 * 0 + _ ≤ _; omega) hd (fun _ _ => ⟨rfl, rfl, hc', hs'⟩)
  dsimp only [Pt.U, Pt.locs, Pt.cells, Pt.slots] at X' l1 y1 z1 st hQ
  subst l1 y1 z1
  exact (k T' _ v ⟨⟨hx, rfl, rfl, hown, hnm, rfl, hlk, hZ, hn0⟩, _, X', rfl, Fr.app N hN⟩ hQ).via st
theorem callI (P : Pos Z y bytes maxL ret n0 p l e R s m args below meth c T h cells slots) {y' : MethodName} {bytes' : ByteArray} {maxL' : Nat} {rm : Room} {i W cells' slots' : Nat} {argsL rest : List Value} {Q' : Option Value → Heap → Prop} {a : Addr} (hy1 : y'.name = "<init>") (w1 : (Jvm.Cond.methodLink y.cls i y').before a0 Z = true) (w2 : (Jvm.Cond.instanceMethod y').before a0 Z = true) (w3 : (Jvm.Cond.initialized y'.cls).before a0 Z = true) (w4 : (Jvm.Cond.code y' bytes' maxL' none).before a0 Z = true) (hy : y'.cls ≠ "java/lang/invoke/MethodHandle" ∧ y'.cls ≠ "java/lang/invoke/VarHandle") (K : Con l Z y' bytes' maxL' none rm n0 (.ref a :: argsL).toArray h Q') (hf : rm.frames + 1 ≤ R.frames) (hl : W + (maxL' + 11) + rm.locals ≤ R.locals) (hc : cells + rm.cells = cells') (hs : slots + rm.slots = slots') (hc' : cells' ≤ R.cells) (hs' : slots' ≤ R.slots) (hlen : ∀ sig, parseMethodDescriptor y'.desc = some sig → argsL.length = sig.parameters.length) (hsz : L.size = maxL) (hst : S = argsL.reverse ++ .ref a :: rest) (hW : (rest.map fun v => v.category).sum ≤ W) (hd : decode bytes pc = .ok (.invokespecial i, 3)) (hp : pc + 3 = pc') (k : ∀ T' h' v, Pos Z y bytes maxL ret n0 p l e R s m args below meth c T' h' cells' slots' → Q' v h' → Goes p e below s n0 kc ks Q (T'.setTop (mkF m pc' L (v.toList ++ rest)))) : Goes p e below s n0 kc ks Q (T.setTop (mkF m pc L S)) := by
  obtain ⟨⟨hx, rfl, rfl, hown, hnm, rfl, hlk, hZ, hn0⟩, locs, X, rfl, N⟩ := P
  subst hp hc hs hst
  obtain ⟨v, _, ⟨T', L1, k1, n1⟩, -, X', ⟨Lc, ⟨hQ, hN⟩, l1, y1, z1⟩, st⟩ := X.specialBack hx hy1 hown (mvT hZ w1) (mvT hZ w2) (mvT hZ w4) hy (backOf (W := W) (Q := fun v h L => Q' v h ∧ Fr n0 L) (K []) hZ w4 w3 hf hl) (g := mkF m pc L (argsL.reverse ++ .ref a :: rest)) rfl hsz (Steps.refl _) (a := a) (argsL := argsL) (rest := rest) hlen rfl (by have q0 := hW; show 2 * 0 + _ ≤ _; omega) hd (fun _ _ => ⟨rfl, rfl, hc', hs'⟩)
  dsimp only [Pt.U, Pt.locs, Pt.cells, Pt.slots] at X' l1 y1 z1 st hQ
  subst l1 y1 z1
  exact (k T' _ v ⟨⟨hx, rfl, rfl, hown, hnm, rfl, hlk, hZ, hn0⟩, _, X', rfl, Fr.app N hN⟩ hQ).via fun _ q => st.trans q
theorem callV (P : Pos Z y bytes maxL ret n0 p l e R s m args below meth c T h cells slots) {y' : MethodName} {bytes' : ByteArray} {maxL' : Nat} {ret' : Option FieldType} {rm : Room} {i W cells' slots' : Nat} {argsL rest : List Value} {Q' : Option Value → Heap → Prop} {a : Addr} {C : String} (w1 : (Jvm.Cond.methodLink y.cls i y').before a0 Z = true) (w2 : (Jvm.Cond.declares y').before a0 Z = true) (w5 : (Jvm.Cond.selects C y' y').before a0 Z = true) (w6 : (Jvm.Cond.instanceMethod y').before a0 Z = true) (w3 : (Jvm.Cond.initialized y'.cls).before a0 Z = true) (w4 : (Jvm.Cond.code y' bytes' maxL' ret').before a0 Z = true) (hy : y'.cls ≠ "java/lang/invoke/MethodHandle" ∧ y'.cls ≠ "java/lang/invoke/VarHandle") (E : Exa Z h a C) (K : Con l Z y' bytes' maxL' ret' rm n0 (.ref a :: argsL).toArray h Q') (hf : rm.frames + 1 ≤ R.frames) (hl : W + (maxL' + 11) + rm.locals ≤ R.locals) (hc : cells + rm.cells = cells') (hs : slots + rm.slots = slots') (hc' : cells' ≤ R.cells) (hs' : slots' ≤ R.slots) (hlen : ∀ sig, parseMethodDescriptor y'.desc = some sig → argsL.length = sig.parameters.length) (hsz : L.size = maxL) (hst : S = argsL.reverse ++ .ref a :: rest) (hW : (rest.map fun v => v.category).sum ≤ W) (hd : decode bytes pc = .ok (.invokevirtual i, 3)) (hp : pc + 3 = pc') (k : ∀ T' h' v, Pos Z y bytes maxL ret n0 p l e R s m args below meth c T' h' cells' slots' → Q' v h' → Goes p e below s n0 kc ks Q (T'.setTop (mkF m pc' L (v.toList ++ rest)))) : Goes p e below s n0 kc ks Q (T.setTop (mkF m pc L S)) := by
  obtain ⟨⟨hx, rfl, rfl, hown, hnm, rfl, hlk, hZ, hn0⟩, locs, X, rfl, N⟩ := P
  obtain ⟨cq, kq, qa, qb, qc⟩ := isOf (T := T) hZ rfl E
  subst hp hc hs hst
  obtain ⟨v, _, ⟨T', L1, k1, n1⟩, -, X', ⟨Lc, ⟨hQ, hN⟩, l1, y1, z1⟩, st⟩ := X.virtualBack hx (y := y') (z := y') hown (mvT hZ w1) (mvT hZ w2) (notFace_of_selects (args := #[]) (mvT hZ w5)) (mvT hZ w5) (mvT hZ w6) hy (backOf (W := W) (Q := fun v h L => Q' v h ∧ Fr n0 L) (K []) hZ w4 w3 hf hl) qa qc (g := mkF m pc L (argsL.reverse ++ .ref a :: rest)) rfl hsz (Steps.refl _) (argsL := argsL) (rest := rest) hlen rfl (by have q0 := hW; show 2 * 0 + _ ≤ _; omega) hd (fun _ _ => ⟨rfl, rfl, hc', hs'⟩)
  dsimp only [Pt.U, Pt.locs, Pt.cells, Pt.slots] at X' l1 y1 z1 st hQ
  subst l1 y1 z1
  exact (k T' _ v ⟨⟨hx, rfl, rfl, hown, hnm, rfl, hlk, hZ, hn0⟩, _, X', rfl, Fr.app N hN⟩ hQ).via fun _ q => st.trans q
theorem callP (P : Pos Z y bytes maxL ret n0 p l e R s m args below meth c T h cells slots) {y' : MethodName} {bytes' : ByteArray} {maxL' : Nat} {ret' : Option FieldType} {rm : Room} {i W cells' slots' : Nat} {argsL rest : List Value} {Q' : Option Value → Heap → Prop} {a : Addr} {C : String} (w1 : (Jvm.Cond.methodLink y.cls i y').before a0 Z = true) {kk : Nat} (wi : (Jvm.Cond.instantiable y'.cls kk).before a0 Z = true) (w6 : (Jvm.Cond.instanceMethod y').before a0 Z = true) (w7 : (Jvm.Cond.privateMethod y').before a0 Z = true) (w3 : (Jvm.Cond.initialized y'.cls).before a0 Z = true) (w4 : (Jvm.Cond.code y' bytes' maxL' ret').before a0 Z = true) (hy : y'.cls ≠ "java/lang/invoke/MethodHandle" ∧ y'.cls ≠ "java/lang/invoke/VarHandle") (E : Exa Z h a C) (K : Con l Z y' bytes' maxL' ret' rm n0 (.ref a :: argsL).toArray h Q') (hf : rm.frames + 1 ≤ R.frames) (hl : W + (maxL' + 11) + rm.locals ≤ R.locals) (hc : cells + rm.cells = cells') (hs : slots + rm.slots = slots') (hc' : cells' ≤ R.cells) (hs' : slots' ≤ R.slots) (hlen : ∀ sig, parseMethodDescriptor y'.desc = some sig → argsL.length = sig.parameters.length) (hsz : L.size = maxL) (hst : S = argsL.reverse ++ .ref a :: rest) (hW : (rest.map fun v => v.category).sum ≤ W) (hd : decode bytes pc = .ok (.invokevirtual i, 3)) (hp : pc + 3 = pc') (k : ∀ T' h' v, Pos Z y bytes maxL ret n0 p l e R s m args below meth c T' h' cells' slots' → Q' v h' → Goes p e below s n0 kc ks Q (T'.setTop (mkF m pc' L (v.toList ++ rest)))) : Goes p e below s n0 kc ks Q (T.setTop (mkF m pc L S)) := by
  obtain ⟨⟨hx, rfl, rfl, hown, hnm, rfl, hlk, hZ, hn0⟩, locs, X, rfl, N⟩ := P
  obtain ⟨cq, q1, q2⟩ := E.cell
  obtain ⟨ci, ki, j1, j2, -, j3, -⟩ := Cond.instantiable_spec wi
  have w5 : (Jvm.Cond.selects y'.cls y' y').before a0 Z = true := selects_self_of_private j1 j2 (by simp only [Bool.or_eq_false_iff] at j3; exact j3.1) (Cond.privateMethod_at w7) w6 hy
  subst hp hc hs hst
  obtain ⟨v, _, ⟨T', L1, k1, n1⟩, -, X', ⟨Lc, ⟨hQ, hN⟩, l1, y1, z1⟩, st⟩ := X.privateBack hx (y := y') hown (mvT hZ w1) (mvT hZ w6) (mvT hZ w5) (Cond.privateMethod_at (mvP hZ w7 (args := #[]))) (mvT hZ w4) hy (backOf (W := W) (Q := fun v h L => Q' v h ∧ Fr n0 L) (K []) hZ w4 w3 hf hl) (g := mkF m pc L (argsL.reverse ++ .ref a :: rest)) rfl hsz (Steps.refl _) (a := a) q1 q2 (argsL := argsL) (rest := rest) hlen rfl (by have q0 := hW; show 2 * 0 + _ ≤ _; omega) hd (fun _ _ => ⟨rfl, rfl, hc', hs'⟩)
  dsimp only [Pt.U, Pt.locs, Pt.cells, Pt.slots] at X' l1 y1 z1 st hQ
  subst l1 y1 z1
  exact (k T' _ v ⟨⟨hx, rfl, rfl, hown, hnm, rfl, hlk, hZ, hn0⟩, _, X', rfl, Fr.app N hN⟩ hQ).via fun _ q => st.trans q
end Plain
end G
/-- an array at a: n places, the i-th holds the int f i -/
def Ints (Z : State) (h : Heap) (a : Addr) (ty : FieldType) (n : Nat) (f : Nat → Int32) : Prop := n < 2 ^ 31 ∧ ∃ c : Cell, Arr Z h a c ty ∧ c.slots.size = n ∧ ∀ i, i < n → c.slots[i]? = some (.int (f i))
def oupd (f : Nat → Int32) (i : Nat) (x : Int32) : Nat → Int32 := fun k => if k = i then x else f k
def lst (l : List Int32) : Nat → Int32 := fun i => l.getD i 0
section Arrays
variable {Z : State} {h h' : Heap} {a b : Addr} {ty : FieldType} {n : Nat} {f : Nat → Int32} {sl : Nat} {v : Value} {ws : List Addr}
theorem Ints.lt (A : Ints Z h a ty n f) : a < h.size := by obtain ⟨_, c, A, -⟩ := A; exact A.lt
theorem Ints.ext (A : Ints Z h a ty n f) (E : Ext h h') : Ints Z h' a ty n f := by obtain ⟨q, c, A, r⟩ := A; exact ⟨q, c, A.ext E, r⟩
theorem Ints.other (A : Ints Z h b ty n f) (W : Wr h h' a sl v) (q : b ≠ a) : Ints Z h' b ty n f := by obtain ⟨r, c, A, r'⟩ := A; exact ⟨r, c, A.other W q, r'⟩
theorem Ints.keep (A : Ints Z h a ty n f) (K : Keep h h' ws) (q : a ∉ ws) : Ints Z h' a ty n f := by obtain ⟨r, c, A, r'⟩ := A; exact ⟨r, c, ⟨K.2.1 a c A.1 q, A.2⟩, r'⟩
theorem Ints.congr {g : Nat → Int32} (A : Ints Z h a ty n f) (q : ∀ i, i < n → f i = g i) : Ints Z h a ty n g := by obtain ⟨r, c, A, s, r'⟩ := A; exact ⟨r, c, A, s, fun i hi => by rw [r' i hi, q i hi]⟩
theorem Ints.same {i : Nat} {x : Int32} (A : Ints Z h a ty n f) (W : Wr h h' a i (.int x)) : Ints Z h' a ty n (oupd f i x) := by
  obtain ⟨q, c, A, s, r⟩ := A
  refine ⟨q, _, A.same W, (sz_set _ _ _).trans s, fun j hj => ?_⟩
  show (c.slots.setIfInBounds i (.int x))[j]? = _
  by_cases e : j = i
  · subst e
    rw [Array.getElem?_setIfInBounds_self_of_lt (by omega)]
    simp [oupd]
  · rw [Array.getElem?_setIfInBounds_ne (Ne.symm e), r j hj]
    simp [oupd, e]
theorem idx {j : Int32} {i : Nat} (hj : j.toInt = (i : Int)) : ¬ j < 0 ∧ j.toNatClampNeg = i := by
  have q : ¬ j < 0 := by rw [Int32.lt_iff_toInt_lt, hj]; show ¬ ((i : Int) < 0); omega
  have r := nat_of q
  exact ⟨q, by omega⟩
theorem idx_in' {j : Int32} {i : Nat} {c : Cell} (hj : j.toInt = (i : Int)) (hi : i < c.slots.size) : ¬ (j < 0 ∨ c.slots.size ≤ j.toNatClampNeg) := by
  obtain ⟨q, r⟩ := idx hj
  rw [r]
  rintro (s | s)
  · exact q s
  · omega
end Arrays
namespace G
section Plain
variable {Z : State} {y : MethodName} {bytes : ByteArray} {maxL : Nat} {ret : Option FieldType} {n0 : Nat} {p : Program} {l : Launch} {e : Env} {R : Room} {s : State} {m : MethodId} {args : Array Value} {below : List Frame} {meth : Method} {c : Code} {T : State} {h : Heap} {cells slots kc ks : Nat} {Q : Option Value → Heap → Prop} {pc pc' pcY pcN : Nat} {L L' : Array Slot} {S : List Value} {a0 : Array Value}
theorem iaload (P : Pos Z y bytes maxL ret n0 p l e R s m args below meth c T h cells slots) {a : Addr} {n i : Nat} {f : Nat → Int32} {j : Int32} (A : Ints Z h a .int n f) (hj : j.toInt = (i : Int)) (hi : i < n) (hd : decode bytes pc = .ok (.iaload, 1)) (hp : pc + 1 = pc') (k : Goes p e below s n0 kc ks Q (T.setTop (mkF m pc' L (.int (f i) :: S)))) : Goes p e below s n0 kc ks Q (T.setTop (mkF m pc L (.int j :: .ref a :: S))) := by
  obtain ⟨⟨hx, rfl, rfl, hown, hnm, rfl, hlk, hZ, hn0⟩, locs, X, rfl, N⟩ := P
  subst hp
  obtain ⟨-, cl, Ar, sz, r⟩ := A
  exact k.via fun t q => X.iaload hx (j := j) (v := .int (f i)) Ar.1 (State.isArrayOf_alike hZ.alike Ar.2.1) Ar.2.2 (idx_in' hj (by omega)) (by rw [(idx hj).2]; exact r i hi) (g := mkF m pc L (.int j :: .ref a :: S)) rfl rfl hd _ q
theorem baload (P : Pos Z y bytes maxL ret n0 p l e R s m args below meth c T h cells slots) {a : Addr} {n i : Nat} {f : Nat → Int32} {j : Int32} (A : Ints Z h a .byte n f) (hj : j.toInt = (i : Int)) (hi : i < n) (hd : decode bytes pc = .ok (.baload, 1)) (hp : pc + 1 = pc') (k : Goes p e below s n0 kc ks Q (T.setTop (mkF m pc' L (.int (f i) :: S)))) : Goes p e below s n0 kc ks Q (T.setTop (mkF m pc L (.int j :: .ref a :: S))) := by
  obtain ⟨⟨hx, rfl, rfl, hown, hnm, rfl, hlk, hZ, hn0⟩, locs, X, rfl, N⟩ := P
  subst hp
  obtain ⟨-, cl, Ar, sz, r⟩ := A
  exact k.via fun t q => X.baloadBytes hx (j := j) (v := .int (f i)) Ar.1 (State.isArrayOf_alike hZ.alike Ar.2.1) Ar.2.2 (idx_in' hj (by omega)) (by rw [(idx hj).2]; exact r i hi) (g := mkF m pc L (.int j :: .ref a :: S)) rfl rfl hd _ q
theorem zaload (P : Pos Z y bytes maxL ret n0 p l e R s m args below meth c T h cells slots) {a : Addr} {n i : Nat} {f : Nat → Int32} {j : Int32} (A : Ints Z h a .boolean n f) (hj : j.toInt = (i : Int)) (hi : i < n) (hd : decode bytes pc = .ok (.baload, 1)) (hp : pc + 1 = pc') (k : Goes p e below s n0 kc ks Q (T.setTop (mkF m pc' L (.int (f i) :: S)))) : Goes p e below s n0 kc ks Q (T.setTop (mkF m pc L (.int j :: .ref a :: S))) := by
  obtain ⟨⟨hx, rfl, rfl, hown, hnm, rfl, hlk, hZ, hn0⟩, locs, X, rfl, N⟩ := P
  subst hp
  obtain ⟨-, cl, Ar, sz, r⟩ := A
  exact k.via fun t q => X.baloadBooleans hx (j := j) (v := .int (f i)) Ar.1 (State.isArrayOf_alike hZ.alike Ar.2.1) Ar.2.2 (idx_in' hj (by omega)) (by rw [(idx hj).2]; exact r i hi) (g := mkF m pc L (.int j :: .ref a :: S)) rfl rfl hd _ q
theorem iastore (P : Pos Z y bytes maxL ret n0 p l e R s m args below meth c T h cells slots) {a : Addr} {n i : Nat} {f : Nat → Int32} {j x : Int32} (A : Ints Z h a .int n f) (hj : j.toInt = (i : Int)) (hi : i < n) (hg : n0 ≤ a) (hd : decode bytes pc = .ok (.iastore, 1)) (hp : pc + 1 = pc') (k : ∀ T' h', Pos Z y bytes maxL ret n0 p l e R s m args below meth c T' h' cells slots → Wr h h' a i (.int (x)) → Goes p e below s n0 kc ks Q (T'.setTop (mkF m pc' L S))) : Goes p e below s n0 kc ks Q (T.setTop (mkF m pc L (.int x :: .int j :: .ref a :: S))) := by
  obtain ⟨⟨hx, rfl, rfl, hown, hnm, rfl, hlk, hZ, hn0⟩, locs, X, rfl, N⟩ := P
  subst hp
  obtain ⟨-, cl, Ar, sz, r⟩ := A
  obtain ⟨T', h', X', e', W', st⟩ := stI X hx hZ rfl Ar (j := j) (x := x) (idx_in' hj (by omega)) (g := mkF m pc L (.int x :: .int j :: .ref a :: S)) rfl rfl hd
  have hP := Fr.snoc X' N hg
  rw [(idx hj).2] at W'
  exact (k T' h' ⟨⟨hx, rfl, rfl, hown, hnm, rfl, hlk, hZ, hn0⟩, _, X', e', hP⟩ W').via st
theorem bastore (P : Pos Z y bytes maxL ret n0 p l e R s m args below meth c T h cells slots) {a : Addr} {n i : Nat} {f : Nat → Int32} {j x : Int32} (A : Ints Z h a .byte n f) (hj : j.toInt = (i : Int)) (hi : i < n) (hg : n0 ≤ a) (hd : decode bytes pc = .ok (.bastore, 1)) (hp : pc + 1 = pc') (k : ∀ T' h', Pos Z y bytes maxL ret n0 p l e R s m args below meth c T' h' cells slots → Wr h h' a i (.int (nar .byte x)) → Goes p e below s n0 kc ks Q (T'.setTop (mkF m pc' L S))) : Goes p e below s n0 kc ks Q (T.setTop (mkF m pc L (.int x :: .int j :: .ref a :: S))) := by
  obtain ⟨⟨hx, rfl, rfl, hown, hnm, rfl, hlk, hZ, hn0⟩, locs, X, rfl, N⟩ := P
  subst hp
  obtain ⟨-, cl, Ar, sz, r⟩ := A
  obtain ⟨T', h', X', e', W', st⟩ := stB X hx hZ rfl Ar (j := j) (x := x) (idx_in' hj (by omega)) (g := mkF m pc L (.int x :: .int j :: .ref a :: S)) rfl rfl hd
  have hP := Fr.snoc X' N hg
  rw [(idx hj).2] at W'
  exact (k T' h' ⟨⟨hx, rfl, rfl, hown, hnm, rfl, hlk, hZ, hn0⟩, _, X', e', hP⟩ W').via st
theorem zastore (P : Pos Z y bytes maxL ret n0 p l e R s m args below meth c T h cells slots) {a : Addr} {n i : Nat} {f : Nat → Int32} {j x : Int32} (A : Ints Z h a .boolean n f) (hj : j.toInt = (i : Int)) (hi : i < n) (hg : n0 ≤ a) (hd : decode bytes pc = .ok (.bastore, 1)) (hp : pc + 1 = pc') (k : ∀ T' h', Pos Z y bytes maxL ret n0 p l e R s m args below meth c T' h' cells slots → Wr h h' a i (.int (nar .boolean x)) → Goes p e below s n0 kc ks Q (T'.setTop (mkF m pc' L S))) : Goes p e below s n0 kc ks Q (T.setTop (mkF m pc L (.int x :: .int j :: .ref a :: S))) := by
  obtain ⟨⟨hx, rfl, rfl, hown, hnm, rfl, hlk, hZ, hn0⟩, locs, X, rfl, N⟩ := P
  subst hp
  obtain ⟨-, cl, Ar, sz, r⟩ := A
  obtain ⟨T', h', X', e', W', st⟩ := stZ X hx hZ rfl Ar (j := j) (x := x) (idx_in' hj (by omega)) (g := mkF m pc L (.int x :: .int j :: .ref a :: S)) rfl rfl hd
  have hP := Fr.snoc X' N hg
  rw [(idx hj).2] at W'
  exact (k T' h' ⟨⟨hx, rfl, rfl, hown, hnm, rfl, hlk, hZ, hn0⟩, _, X', e', hP⟩ W').via st
theorem arraylength (P : Pos Z y bytes maxL ret n0 p l e R s m args below meth c T h cells slots) {a : Addr} {n : Nat} {f : Nat → Int32} {ty : FieldType} {z : Int32} (A : Ints Z h a ty n f) (hz : z.toInt = (n : Int)) (hd : decode bytes pc = .ok (.arraylength, 1)) (hp : pc + 1 = pc') (k : Goes p e below s n0 kc ks Q (T.setTop (mkF m pc' L (.int z :: S)))) : Goes p e below s n0 kc ks Q (T.setTop (mkF m pc L (.ref a :: S))) := by
  obtain ⟨⟨hx, rfl, rfl, hown, hnm, rfl, hlk, hZ, hn0⟩, locs, X, rfl, N⟩ := P
  subst hp
  obtain ⟨hn, cl, Ar, sz, r⟩ := A
  have e' : cl.slots.size.toInt32 = z := by rw [sz, ← (idx hz).2]; exact (back32 (idx hz).1).1
  exact k.via fun t q => X.arraylength hx Ar.1 (State.isArrayOf_alike hZ.alike Ar.2.1) (g := mkF m pc L (.ref a :: S)) rfl rfl hd _ (by rw [e']; exact q)
theorem newarray (P : Pos Z y bytes maxL ret n0 p l e R s m args below meth c T h cells slots) {aty : ArrayType} {z : Int32} {N cap cells' slots' : Nat} (w : (Jvm.Cond.arrayClass (newarray.typeOf aty)).before a0 Z = true) (hdv : defaultValue (newarray.typeOf aty) = .int 0) (hz : z.toInt = (N : Int)) (hcap : N ≤ cap) (hb : cap * 8 ≤ 536870912) (hd : decode bytes pc = .ok (.newarray aty, 2)) (hc : cells + 1 = cells') (hs : slots + cap = slots') (hc' : cells' ≤ R.cells) (hs' : slots' ≤ R.slots) (hp : pc + 2 = pc') (k : ∀ T' h' b, b = h.size → n0 ≤ b → Pos Z y bytes maxL ret n0 p l e R s m args below meth c T' h' cells' slots' → Ext h h' → Ints Z h' b (newarray.typeOf aty) N (fun _ => 0) → Goes p e below s n0 kc ks Q (T'.setTop (mkF m pc' L (.ref b :: S)))) : Goes p e below s n0 kc ks Q (T.setTop (mkF m pc L (.int z :: S))) := by
  obtain ⟨⟨hx, rfl, rfl, hown, hnm, rfl, hlk, hZ, hn0⟩, locs, X, rfl, NF⟩ := P
  subst hp hc hs
  obtain ⟨q1, q2⟩ := idx hz
  obtain ⟨T', h', cA, X', e', E', A', st⟩ := newP X hx hZ w rfl (g := mkF m pc L (.int z :: S)) rfl hd rfl q1 (cap := cap) (by omega) hb hc' hs'
  have h32 := (back32 q1).2
  refine (k T' h' _ rfl (Nat.le_trans hn0 X.same.2.1) ⟨⟨hx, rfl, rfl, hown, hnm, rfl, hlk, hZ, hn0⟩, _, X', e', NF⟩ E' ⟨by omega, _, A', by rw [sz_new]; exact q2, fun i hi => ?_⟩).via st
  show (Array.replicate z.toNatClampNeg (defaultValue _))[i]? = some (.int 0)
  rw [hdv, Array.getElem?_replicate, if_pos (by omega)]
theorem top {x x' : Int32} (h : x = x') (k : Goes p e below s n0 kc ks Q (T.setTop (mkF m pc L (.int x' :: S)))) : Goes p e below s n0 kc ks Q (T.setTop (mkF m pc L (.int x :: S))) := by subst h; exact k
theorem topL {x x' : Int64} (h : x = x') (k : Goes p e below s n0 kc ks Q (T.setTop (mkF m pc L (.long x' :: S)))) : Goes p e below s n0 kc ks Q (T.setTop (mkF m pc L (.long x :: S))) := by subst h; exact k
theorem top1 {x x' : Int32} {u : Value} (h : x = x') (k : Goes p e below s n0 kc ks Q (T.setTop (mkF m pc L (u :: .int x' :: S)))) : Goes p e below s n0 kc ks Q (T.setTop (mkF m pc L (u :: .int x :: S))) := by subst h; exact k
theorem lswHit (P : Pos Z y bytes maxL ret n0 p l e R s m args below meth c T h cells slots) {x : Int32} {df a off : Int} {pairs : Array (Int × Int)} {len : Nat} (hd : decode bytes pc = .ok (.lookupswitch df pairs, len)) (hs : (pairs.toList.zip (pairs.toList.drop 1)).all (fun (a, next) => a.1 < next.1) = true) (hf : pairs.find? (·.1 == x.toInt) = some (a, off)) (ho : 0 ≤ (pc : Int) + off) (hp : ((pc : Int) + off).toNat = pc') (k : Goes p e below s n0 kc ks Q (T.setTop (mkF m pc' L S))) : Goes p e below s n0 kc ks Q (T.setTop (mkF m pc L (.int x :: S))) := by
  obtain ⟨⟨hx, rfl, rfl, hown, hnm, rfl, hlk, hZ, hn0⟩, locs, X, rfl, N⟩ := P
  subst hp
  exact k.via fun t q => X.lookupswitchHit hx (g := mkF m pc L (.int x :: S)) rfl rfl hd hs hf ho _ q
theorem lswMiss (P : Pos Z y bytes maxL ret n0 p l e R s m args below meth c T h cells slots) {x : Int32} {df : Int} {pairs : Array (Int × Int)} {len : Nat} (hd : decode bytes pc = .ok (.lookupswitch df pairs, len)) (hs : (pairs.toList.zip (pairs.toList.drop 1)).all (fun (a, next) => a.1 < next.1) = true) (hf : ∀ q ∈ pairs.toList, q.1 ≠ x.toInt) (ho : 0 ≤ (pc : Int) + df) (hp : ((pc : Int) + df).toNat = pc') (k : Goes p e below s n0 kc ks Q (T.setTop (mkF m pc' L S))) : Goes p e below s n0 kc ks Q (T.setTop (mkF m pc L (.int x :: S))) := by
  obtain ⟨⟨hx, rfl, rfl, hown, hnm, rfl, hlk, hZ, hn0⟩, locs, X, rfl, N⟩ := P
  subst hp
  exact k.via fun t q => X.lookupswitchMiss hx (g := mkF m pc L (.int x :: S)) rfl rfl hd hs (find_miss hf) ho _ q
theorem tswIn (P : Pos Z y bytes maxL ret n0 p l e R s m args below meth c T h cells slots) {x : Int32} {df lo hi off : Int} {offs : Array Int} {len : Nat} (hd : decode bytes pc = .ok (.tableswitch df lo hi offs, len)) (hin : ¬ (x.toInt < lo ∨ x.toInt > hi)) (hf : offs[(x.toInt - lo).toNat]? = some off) (ho : 0 ≤ (pc : Int) + off) (hp : ((pc : Int) + off).toNat = pc') (k : Goes p e below s n0 kc ks Q (T.setTop (mkF m pc' L S))) : Goes p e below s n0 kc ks Q (T.setTop (mkF m pc L (.int x :: S))) := by
  obtain ⟨⟨hx, rfl, rfl, hown, hnm, rfl, hlk, hZ, hn0⟩, locs, X, rfl, N⟩ := P
  exact k.via fun t q => XS.tswIn X.here hx rfl (pc0 := pc) (pc' := pc') rfl hd rfl hin hf ho hp q
end Plain
end G
end Jvm.OwnW
namespace Jvm.Pilot.@@N@@
open Jvm Jvm.ClassFile Sem Op Lib Jvm.Free Jvm.Stand Jvm.LawKit Jvm.RoadKit Jvm.OwnW Bundle Jvm.Pilot.@@N@@.Jvm.D
theorem wd {Z : State} {a0 : Array Value} (hw : ∀ d ∈ tables_1, d.before a0 Z = true) {i : Nat} {d : Jvm.Cond} (h : tables_1[i]? = some d) : d.before a0 Z = true := hw _ (List.mem_of_getElem? h)
def ObIL (Z : State) (h : Heap) (a : Addr) (v0 v1 : Value) : Prop := Exa Z h a "com/example/rila/rila/store/IntList" ∧ Fld Z h a "com/example/rila/rila/store/IntList" "items" "[I" v0 ∧ Fld Z h a "com/example/rila/rila/store/IntList" "size" "I" v1
theorem ObIL.lt {Z : State} {h : Heap} {a : Addr} {v0 v1 : Value} (O : ObIL Z h a v0 v1) : a < h.size := O.1.lt
theorem ObIL.ext {Z : State} {h h' : Heap} {a : Addr} {v0 v1 : Value} (O : ObIL Z h a v0 v1) (E : Ext h h') : ObIL Z h' a v0 v1 := ⟨O.1.ext E, O.2.1.ext E, O.2.2.ext E⟩
theorem ObIL.other {Z : State} {h h' : Heap} {a b : Addr} {sl : Nat} {v : Value} {v0 v1 : Value} (O : ObIL Z h b v0 v1) (W : Wr h h' a sl v) (q : b ≠ a) : ObIL Z h' b v0 v1 := ⟨O.1.wr W, O.2.1.other W (Or.inl q), O.2.2.other W (Or.inl q)⟩
theorem ObIL.keep {Z : State} {h h' : Heap} {a : Addr} {ws : List Addr} {v0 v1 : Value} (O : ObIL Z h a v0 v1) (K : Keep h h' ws) (q : a ∉ ws) : ObIL Z h' a v0 v1 := ⟨O.1.keep K, O.2.1.keep K q, O.2.2.keep K q⟩
theorem ObIL.put0 {Z : State} {h h' : Heap} {a : Addr} {v : Value} {a0 : Array Value} {v0 v1 : Value} (hw : ∀ d ∈ tables_1, d.before a0 Z = true) (O : ObIL Z h a v0 v1) (W : Wr h h' a (RoadKit.slotOf Z "com/example/rila/rila/store/IntList" "items" "[I") v) : ObIL Z h' a v v1 := ⟨O.1.wr W, O.2.1.same W, O.2.2.other W (Or.inr (slot_ne (a0 := a0) (C := "com/example/rila/rila/store/IntList") (Or.inl (wd hw (i := 27) rfl)) (Or.inl (wd hw (i := 16) rfl)) (by decide) (t := .int) (t' := (.array .int)) (by decide) (by decide)))⟩
theorem ObIL.put1 {Z : State} {h h' : Heap} {a : Addr} {v : Value} {a0 : Array Value} {v0 v1 : Value} (hw : ∀ d ∈ tables_1, d.before a0 Z = true) (O : ObIL Z h a v0 v1) (W : Wr h h' a (RoadKit.slotOf Z "com/example/rila/rila/store/IntList" "size" "I") v) : ObIL Z h' a v0 v := ⟨O.1.wr W, O.2.1.other W (Or.inr (slot_ne (a0 := a0) (C := "com/example/rila/rila/store/IntList") (Or.inl (wd hw (i := 16) rfl)) (Or.inl (wd hw (i := 27) rfl)) (by decide) (t := (.array .int)) (t' := .int) (by decide) (by decide))), O.2.2.same W⟩
theorem ObIL.new {Z : State} {h : Heap} {a : Addr} {a0 : Array Value} (hw : ∀ d ∈ tables_1, d.before a0 Z = true) (A : Exa Z h a "com/example/rila/rila/store/IntList") (D : ∀ {O nm d : String} {ty : FieldType}, Laid Z a0 "com/example/rila/rila/store/IntList" O nm d → parseFieldDescriptor d = some ty → Fld Z h a O nm d (defaultValue ty)) : ObIL Z h a .null (.int 0) := ⟨A, D (Or.inl (wd hw (i := 16) rfl)) (ty := (.array .int)) (by decide), D (Or.inl (wd hw (i := 27) rfl)) (ty := .int) (by decide)⟩
def own_lb (f : Nat → Int32) (v : Int32) (lo hi : Nat) : Nat :=
  if h : lo < hi then (if f ((lo + hi) / 2) < v then own_lb f v ((lo + hi) / 2 + 1) hi else own_lb f v lo ((lo + hi) / 2)) else lo
termination_by hi - lo
decreasing_by all_goals omega
theorem own_end (f : Nat → Int32) (v : Int32) (lo hi : Nat) (h : hi ≤ lo) : own_lb f v lo hi = lo := by rw [own_lb, dif_neg (by omega)]
theorem own_up (f : Nat → Int32) (v : Int32) (lo hi : Nat) (h : lo < hi) (e : f ((lo + hi) / 2) < v) : own_lb f v lo hi = own_lb f v ((lo + hi) / 2 + 1) hi := by rw [own_lb, dif_pos h, if_pos e]
theorem own_dn (f : Nat → Int32) (v : Int32) (lo hi : Nat) (h : lo < hi) (e : ¬ f ((lo + hi) / 2) < v) : own_lb f v lo hi = own_lb f v lo ((lo + hi) / 2) := by rw [own_lb, dif_pos h, if_neg e]
theorem own_lt {j t : Int32} {i k : Nat} (hj : j.toInt = (i : Int)) (ht : t.toInt = (k : Int)) (h : j < t) : i < k := by rw [Int32.lt_iff_toInt_lt] at h; omega
theorem own_ge {j t : Int32} {i k : Nat} (hj : j.toInt = (i : Int)) (ht : t.toInt = (k : Int)) (h : ¬ j < t) : k ≤ i := by rw [Int32.lt_iff_toInt_lt] at h; omega
theorem own_inc {j : Int32} {i : Nat} (hj : j.toInt = (i : Int)) (hi : i < 1000) : (j + 1).toInt = ((i + 1 : Nat) : Int) := by
  have h1 := c_iadd j 1
  have h2 := rng32 (j + 1)
  have h3 : (1 : Int32).toInt = 1 := by decide
  omega
theorem own_mid {j t x : Int32} {i k : Nat} (hj : j.toInt = (i : Int)) (ht : t.toInt = (k : Int)) (hi : i ≤ 4) (hk : k ≤ 4) (hx : (((j + t).toUInt32 >>> ((1 : Int32) &&& 31).toUInt32).toInt32) = x) : x.toInt = (((i + k) / 2 : Nat) : Int) := by
  have h1 := c_iadd j t
  have h2 := rng32 (j + t)
  have h3 := c_iushr (j + t) 1 1 (by decide) (by decide)
  rw [hx] at h3
  omega
theorem own_no {s : Int32} {k : Nat} (hk : s.toInt = (k : Int)) (h : k < 4) : ¬ s = (4 : Int32) := by
  intro q
  rw [q] at hk
  have h1 : (4 : Int32).toInt = 4 := by decide
  omega
theorem own_nat {j : Int32} {i : Nat} (hj : j.toInt = (i : Int)) : j = Int32.ofNat i := by
  have h := rng32 j
  apply Int32.toInt_inj.mp
  rw [Int32.toInt_ofNat_of_lt (by omega)]
  exact hj
theorem d1_0 : decode jdk_29_method_65_code 0 = .ok (.iload_n 0, 1) := by decide +kernel
theorem d1_1 : decode jdk_29_method_65_code 1 = .ok (.iload_n 1, 1) := by decide +kernel
theorem d1_2 : decode jdk_29_method_65_code 2 = .ok (.if_icmp .lt 7, 3) := by decide +kernel
theorem d1_5 : decode jdk_29_method_65_code 5 = .ok (.iload_n 0, 1) := by decide +kernel
theorem d1_6 : decode jdk_29_method_65_code 6 = .ok (.goto 4, 3) := by decide +kernel
theorem d1_9 : decode jdk_29_method_65_code 9 = .ok (.iload_n 1, 1) := by decide +kernel
theorem d1_10 : decode jdk_29_method_65_code 10 = .ok (.ireturn, 1) := by decide +kernel
theorem pd_1 : parseMethodDescriptor "(II)I" = some ⟨[.int, .int], some .int⟩ := by decide +kernel
def f1 (p0 : Int32) (p1 : Int32) : Int32 := (if p0 < p1 then p1 else p0)
abbrev room1 : Room := { frames := 0, cells := 0, slots := 0, locals := 0 }
def Q1 (p0 : Int32) (p1 : Int32) (h0 : Heap) (vv : Option Value) (hh : Heap) : Prop := vv = some (.int (f1 p0 p1)) ∧ h0 = hh
theorem ef_1 (m : MethodId) (p0 : Int32) (p1 : Int32) : entryFrame m #[(.int p0), (.int p1)] 2 = mkF m 0 #[.val (.int p0), .val (.int p1)] [] := by first | (simp [entryFrame, mkF, argsToLocals, Value.category]; done) | rfl
set_option maxRecDepth 65536 in
set_option maxHeartbeats 40000000 in
theorem rm1 {l : Launch} {Z : State} {aw : Array Value} (hw : ∀ d ∈ tables_1, d.before aw Z = true) {n0 : Nat} (p0 : Int32) (p1 : Int32) (h0 : Heap) (hn0 : n0 ≤ h0.size) :
    Con l Z (⟨"java/lang/Math", "max", "(II)I"⟩ : MethodName) jdk_29_method_65_code 2 (some .int) room1 n0 #[(.int p0), (.int p1)] h0 (Q1 p0 p1 h0) := by
  refine Con.body (Jvm.Free.JP.mathPlain rfl (by decide +kernel)) hn0 (fun m => ef_1 m p0 p1) ?_
  intro p e s m below meth c T P
  refine G.iloadN P d1_0 rfl (pc' := 1) rfl ?_
  refine G.iloadN P d1_1 rfl (pc' := 2) rfl ?_
  have J10_2 : ∀ (z1 : Int32), z1 = (if p0 < p1 then p1 else p0) → Goes p e below s n0 room1.cells room1.slots (Q1 p0 p1 h0) (T.setTop (mkF m 10 #[.val (.int p0), .val (.int p1)] [(.int z1)])) := by
    intro z1 hz1
    exact G.ireturn P rfl d1_10 (by decide) (by decide) ⟨by subst hz1; simp only [f1], rfl⟩
  refine G.icmp_lt P d1_2 (by decide) (pcY := 9) (by decide) (pcN := 5) rfl (fun c2 => ?_) (fun c2 => ?_)
  · refine G.iloadN P d1_9 rfl (pc' := 10) rfl ?_
    exact J10_2 _ (by simp only [if_pos c2])
  · refine G.iloadN P d1_5 rfl (pc' := 6) rfl ?_
    refine G.goto P d1_6 (by decide) (pc' := 10) (by decide) ?_
    exact J10_2 _ (by simp only [if_neg c2])
theorem own_sz0 : (0 : Int32).toInt = ((0 : Nat) : Int) := by decide
theorem own_sz {s : Int32} {k : Nat} (h : s.toInt = (k : Int)) (hk : k < 1000) : (s + (1 : Int32)).toInt = ((k + 1 : Nat) : Int) := by
  have e := c_iadd s 1
  have r := rng32 (s + 1)
  have k1 : (1 : Int32).toInt = 1 := by decide
  omega
theorem d2_0 : decode prog_9_method_1_code 0 = .ok (.aload_n 0, 1) := by decide +kernel
theorem d2_1 : decode prog_9_method_1_code 1 = .ok (.invokespecial 1, 3) := by decide +kernel
theorem d2_4 : decode prog_9_method_1_code 4 = .ok (.aload_n 0, 1) := by decide +kernel
theorem d2_5 : decode prog_9_method_1_code 5 = .ok (.iconst 4, 1) := by decide +kernel
theorem d2_6 : decode prog_9_method_1_code 6 = .ok (.newarray .int, 2) := by decide +kernel
theorem d2_8 : decode prog_9_method_1_code 8 = .ok (.putfield 7, 3) := by decide +kernel
theorem d2_11 : decode prog_9_method_1_code 11 = .ok (.return_, 1) := by decide +kernel
theorem pn_2 : plainName "com/example/rila/rila/store/IntList" = true := by first | (simp [plainName, overriddenIn]; done) | decide +kernel
theorem pd_2 : parseMethodDescriptor "()V" = some ⟨[], none⟩ := by decide +kernel
abbrev room2 : Room := { frames := 1, cells := 1, slots := 4, locals := 12 }
def Q2 (Z : State) (a0 : Addr) (h0 : Heap) (vv : Option Value) (hh : Heap) : Prop := ∃ b : Addr, vv = none ∧ h0.size ≤ b ∧ Keep h0 hh [a0] ∧ Ints Z hh b .int 4 (lst [(0 : Int32), (0 : Int32), (0 : Int32), (0 : Int32)]) ∧ ObIL Z hh a0 (.ref b) (.int (0 : Int32))
theorem ef_2 (m : MethodId) (a0 : Addr) : entryFrame m #[(.ref a0)] 1 = mkF m 0 #[.val (.ref a0)] [] := by first | (simp [entryFrame, mkF, argsToLocals, Value.category]; done) | rfl
set_option maxRecDepth 65536 in
set_option maxHeartbeats 40000000 in
theorem rm2 {l : Launch} {Z : State} {aw : Array Value} (hw : ∀ d ∈ tables_1, d.before aw Z = true) {n0 : Nat} (a0 : Addr) (h0 : Heap) (O : ObIL Z h0 a0 .null (.int (0 : Int32))) (g_a0 : n0 ≤ a0) (hn0 : n0 ≤ h0.size) :
    Con l Z (⟨"com/example/rila/rila/store/IntList", "<init>", "()V"⟩ : MethodName) prog_9_method_1_code 1 none room2 n0 #[(.ref a0)] h0 (Q2 Z a0 h0) := by
  refine Con.body (plainFor_of_name pn_2) hn0 (fun m => ef_2 m a0) ?_
  intro p e s m below meth c T P
  have K := Keep.refl h0 [a0]
  refine G.aloadN P d2_0 rfl rfl (pc' := 1) rfl ?_
  refine G.initO P (wd hw (i := 11) rfl) (wd hw (i := 12) rfl) (wd hw (i := 13) rfl) rfl d2_1 (by decide) (W := 0) (Nat.le_of_eq rfl) (by decide) (pc' := 4) rfl (fun T P => ?_)
  refine G.aloadN P d2_4 rfl rfl (pc' := 5) rfl ?_
  refine G.iconst P d2_5 (v := (4 : Int32)) rfl (pc' := 6) rfl ?_
  refine G.newarray P (wd hw (i := 14) rfl) rfl (N := 4) (by decide) (cap := 4) (Nat.le_refl _) (by decide) d2_6 (cells' := 1) rfl (slots' := 4) rfl (by decide) (by decide) (pc' := 8) rfl ?_
  intro T h2 b2 hb2 g_b2 P E2 A2
  have ne_a0_b2 : a0 ≠ b2 := by rw [hb2]; exact Nat.ne_of_lt O.lt
  replace O := O.ext E2
  have sz_b2 : h0.size ≤ b2 := by rw [hb2]; exact K.1
  replace K := K.ext E2
  replace A2 : Ints Z h2 b2 .int 4 (fun _ => 0) := A2
  replace A2 := Ints.congr (g := (lst [(0 : Int32), (0 : Int32), (0 : Int32), (0 : Int32)])) A2 (fun i hi => by match i, hi with | 0, _ => rfl | 1, _ => rfl | 2, _ => rfl | 3, _ => rfl | k + 4, h => exact absurd h (by omega))
  refine G.putF P (host := "") (Or.inl (wd hw (i := 15) rfl)) Via.refl O.2.1 O.1 (Or.inl (wd hw (i := 16) rfl)) (wd hw (i := 6) rfl) (ty := (.array .int)) (by decide) rfl rfl g_a0 d2_8 (pc' := 11) rfl ?_
  intro T h4 P W3
  replace O := O.put0 hw W3
  replace A2 := A2.other W3 (Ne.symm ne_a0_b2)
  replace K := K.wr W3 (Or.inl (by simp))
  exact G.return_ P rfl d2_11 (by decide) (by decide) ⟨b2, rfl, sz_b2, K, A2, O⟩
theorem d4_0 : decode method_3_code 0 = .ok (.iload_n 0, 1) := by decide +kernel
theorem d4_1 : decode method_3_code 1 = .ok (.ifCond .eq 10, 3) := by decide +kernel
theorem d4_4 : decode method_3_code 4 = .ok (.iload_n 1, 1) := by decide +kernel
theorem d4_5 : decode method_3_code 5 = .ok (.iload_n 2, 1) := by decide +kernel
theorem d4_6 : decode method_3_code 6 = .ok (.if_icmp .ge 5, 3) := by decide +kernel
theorem d4_9 : decode method_3_code 9 = .ok (.iconst 1, 1) := by decide +kernel
theorem d4_10 : decode method_3_code 10 = .ok (.ireturn, 1) := by decide +kernel
theorem d4_11 : decode method_3_code 11 = .ok (.iconst 0, 1) := by decide +kernel
theorem d4_12 : decode method_3_code 12 = .ok (.ireturn, 1) := by decide +kernel
theorem pn_4 : plainName "com/example/rila/rila/store/IntListLowerBoundPinLaw" = true := by first | (simp [plainName, overriddenIn]; done) | decide +kernel
theorem pd_4 : parseMethodDescriptor "(ZII)I" = some ⟨[.boolean, .int, .int], some .int⟩ := by decide +kernel
def f4 (p0 : Int32) (p1 : Int32) (p2 : Int32) : Int32 := (if p0 = 0 then (0 : Int32) else (if p1 < p2 then (1 : Int32) else (0 : Int32)))
abbrev room4 : Room := { frames := 0, cells := 0, slots := 0, locals := 0 }
def Q4 (p0 : Int32) (p1 : Int32) (p2 : Int32) (h0 : Heap) (vv : Option Value) (hh : Heap) : Prop := vv = some (.int (f4 p0 p1 p2)) ∧ h0 = hh
theorem ef_4 (m : MethodId) (p0 : Int32) (p1 : Int32) (p2 : Int32) : entryFrame m #[(.int p0), (.int p1), (.int p2)] 3 = mkF m 0 #[.val (.int p0), .val (.int p1), .val (.int p2)] [] := by first | (simp [entryFrame, mkF, argsToLocals, Value.category]; done) | rfl
set_option maxRecDepth 65536 in
set_option maxHeartbeats 40000000 in
theorem rm4 {l : Launch} {Z : State} {aw : Array Value} (hw : ∀ d ∈ tables_1, d.before aw Z = true) {n0 : Nat} (p0 : Int32) (p1 : Int32) (p2 : Int32) (h0 : Heap) (hn0 : n0 ≤ h0.size) :
    Con l Z (⟨"com/example/rila/rila/store/IntListLowerBoundPinLaw", "below", "(ZII)I"⟩ : MethodName) method_3_code 3 (some .int) room4 n0 #[(.int p0), (.int p1), (.int p2)] h0 (Q4 p0 p1 p2 h0) := by
  refine Con.body (plainFor_of_name pn_4) hn0 (fun m => ef_4 m p0 p1 p2) ?_
  intro p e s m below meth c T P
  refine G.iloadN P d4_0 rfl (pc' := 1) rfl ?_
  refine G.if_eq P d4_1 (by decide) (pcY := 11) (by decide) (pcN := 4) rfl (fun c1 => ?_) (fun c1 => ?_)
  · refine G.iconst P d4_11 (v := (0 : Int32)) rfl (pc' := 12) rfl ?_
    exact G.ireturn P rfl d4_12 (by decide) (by decide) ⟨by simp only [f4, if_pos c1], rfl⟩
  · refine G.iloadN P d4_4 rfl (pc' := 5) rfl ?_
    refine G.iloadN P d4_5 rfl (pc' := 6) rfl ?_
    refine G.icmp_ge P d4_6 (by decide) (pcY := 11) (by decide) (pcN := 9) rfl (fun c6 => ?_) (fun c6 => ?_)
    · refine G.iconst P d4_11 (v := (0 : Int32)) rfl (pc' := 12) rfl ?_
      exact G.ireturn P rfl d4_12 (by decide) (by decide) ⟨by simp only [f4, if_neg c1, if_neg c6], rfl⟩
    · refine G.iconst P d4_9 (v := (1 : Int32)) rfl (pc' := 10) rfl ?_
      exact G.ireturn P rfl d4_10 (by decide) (by decide) ⟨by simp only [f4, if_neg c1, if_pos c6], rfl⟩
theorem d6_0 : decode prog_9_method_2_code 0 = .ok (.aload_n 0, 1) := by decide +kernel
theorem d6_1 : decode prog_9_method_2_code 1 = .ok (.getfield 13, 3) := by decide +kernel
theorem d6_4 : decode prog_9_method_2_code 4 = .ok (.aload_n 0, 1) := by decide +kernel
theorem d6_5 : decode prog_9_method_2_code 5 = .ok (.getfield 7, 3) := by decide +kernel
theorem d6_8 : decode prog_9_method_2_code 8 = .ok (.arraylength, 1) := by decide +kernel
theorem d6_9 : decode prog_9_method_2_code 9 = .ok (.if_icmp .ne 20, 3) := by decide +kernel
theorem d6_12 : decode prog_9_method_2_code 12 = .ok (.aload_n 0, 1) := by decide +kernel
theorem d6_13 : decode prog_9_method_2_code 13 = .ok (.aload_n 0, 1) := by decide +kernel
theorem d6_14 : decode prog_9_method_2_code 14 = .ok (.getfield 7, 3) := by decide +kernel
theorem d6_17 : decode prog_9_method_2_code 17 = .ok (.aload_n 0, 1) := by decide +kernel
theorem d6_18 : decode prog_9_method_2_code 18 = .ok (.getfield 13, 3) := by decide +kernel
theorem d6_21 : decode prog_9_method_2_code 21 = .ok (.iconst 2, 1) := by decide +kernel
theorem d6_22 : decode prog_9_method_2_code 22 = .ok (.imul, 1) := by decide +kernel
theorem d6_23 : decode prog_9_method_2_code 23 = .ok (.invokestatic 17, 3) := by decide +kernel
theorem d6_26 : decode prog_9_method_2_code 26 = .ok (.putfield 7, 3) := by decide +kernel
theorem d6_29 : decode prog_9_method_2_code 29 = .ok (.aload_n 0, 1) := by decide +kernel
theorem d6_30 : decode prog_9_method_2_code 30 = .ok (.getfield 7, 3) := by decide +kernel
theorem d6_33 : decode prog_9_method_2_code 33 = .ok (.aload_n 0, 1) := by decide +kernel
theorem d6_34 : decode prog_9_method_2_code 34 = .ok (.dup, 1) := by decide +kernel
theorem d6_35 : decode prog_9_method_2_code 35 = .ok (.getfield 13, 3) := by decide +kernel
theorem d6_38 : decode prog_9_method_2_code 38 = .ok (.dup_x1, 1) := by decide +kernel
theorem d6_39 : decode prog_9_method_2_code 39 = .ok (.iconst 1, 1) := by decide +kernel
theorem d6_40 : decode prog_9_method_2_code 40 = .ok (.iadd, 1) := by decide +kernel
theorem d6_41 : decode prog_9_method_2_code 41 = .ok (.putfield 13, 3) := by decide +kernel
theorem d6_44 : decode prog_9_method_2_code 44 = .ok (.iload_n 1, 1) := by decide +kernel
theorem d6_45 : decode prog_9_method_2_code 45 = .ok (.iastore, 1) := by decide +kernel
theorem d6_46 : decode prog_9_method_2_code 46 = .ok (.return_, 1) := by decide +kernel
theorem pn_6 : plainName "com/example/rila/rila/store/IntList" = true := by first | (simp [plainName, overriddenIn]; done) | decide +kernel
theorem pd_6 : parseMethodDescriptor "(I)V" = some ⟨[.int], none⟩ := by decide +kernel
abbrev room6 : Room := { frames := 0, cells := 0, slots := 0, locals := 0 }
def Q6 (Z : State) (a0 : Addr) (p1 : Int32) (t : Addr) (sz : Int32) (f : Nat → Int32) (k : Nat) (h0 : Heap) (vv : Option Value) (hh : Heap) : Prop := vv = none ∧ Keep h0 hh [a0, t] ∧ ObIL Z hh a0 (.ref t) (.int (sz + (1 : Int32))) ∧ Ints Z hh t .int 4 (oupd f k p1)
theorem ef_6 (m : MethodId) (a0 : Addr) (p1 : Int32) : entryFrame m #[(.ref a0), (.int p1)] 2 = mkF m 0 #[.val (.ref a0), .val (.int p1)] [] := by first | (simp [entryFrame, mkF, argsToLocals, Value.category]; done) | rfl
set_option maxRecDepth 65536 in
set_option maxHeartbeats 40000000 in
theorem rm6 {l : Launch} {Z : State} {aw : Array Value} (hw : ∀ d ∈ tables_1, d.before aw Z = true) {n0 : Nat} (a0 : Addr) (p1 : Int32) (t : Addr) (sz : Int32) (f : Nat → Int32) (k : Nat) (h0 : Heap) (O : ObIL Z h0 a0 (.ref t) (.int sz)) (A : Ints Z h0 t .int 4 f) (ne_a0_t : a0 ≠ t) (g_a0 : n0 ≤ a0) (g_t : n0 ≤ t) (hk : sz.toInt = (k : Int)) (hk2 : k < 4) (hn0 : n0 ≤ h0.size) :
    Con l Z (⟨"com/example/rila/rila/store/IntList", "add", "(I)V"⟩ : MethodName) prog_9_method_2_code 2 none room6 n0 #[(.ref a0), (.int p1)] h0 (Q6 Z a0 p1 t sz f k h0) := by
  refine Con.body (plainFor_of_name pn_6) hn0 (fun m => ef_6 m a0 p1) ?_
  intro p e s m below meth c T P
  have K := Keep.refl h0 [a0, t]
  refine G.aloadN P d6_0 rfl rfl (pc' := 1) rfl ?_
  refine G.getF P (host := "") (Or.inl (wd hw (i := 26) rfl)) Via.refl O.2.2 d6_1 (pc' := 4) rfl ?_
  intro T P
  refine G.aloadN P d6_4 rfl rfl (pc' := 5) rfl ?_
  refine G.getF P (host := "") (Or.inl (wd hw (i := 15) rfl)) Via.refl O.2.1 d6_5 (pc' := 8) rfl ?_
  intro T P
  refine G.arraylength P A (z := (4 : Int32)) (by decide) d6_8 (pc' := 9) rfl ?_
  refine G.icmp_ne P d6_9 (by decide) (pcY := 29) (by decide) (pcN := 12) rfl (fun c9 => ?_) (fun c9 => ?_)
  · refine G.aloadN P d6_29 rfl rfl (pc' := 30) rfl ?_
    refine G.getF P (host := "") (Or.inl (wd hw (i := 15) rfl)) Via.refl O.2.1 d6_30 (pc' := 33) rfl ?_
    intro T P
    refine G.aloadN P d6_33 rfl rfl (pc' := 34) rfl ?_
    refine G.dup P d6_34 rfl (pc' := 35) rfl ?_
    refine G.getF P (host := "") (Or.inl (wd hw (i := 26) rfl)) Via.refl O.2.2 d6_35 (pc' := 38) rfl ?_
    intro T P
    refine G.dupX1 P d6_38 rfl rfl (pc' := 39) rfl ?_
    refine G.iconst P d6_39 (v := (1 : Int32)) rfl (pc' := 40) rfl ?_
    refine G.iadd P d6_40 (pc' := 41) rfl ?_
    obtain ⟨x5, hx5⟩ : ∃ z : Int32, (sz + (1 : Int32)) = z := ⟨_, rfl⟩
    refine G.top hx5 ?_
    refine G.putF P (host := "") (Or.inl (wd hw (i := 26) rfl)) Via.refl O.2.2 O.1 (Or.inl (wd hw (i := 27) rfl)) (wd hw (i := 6) rfl) (ty := .int) (by decide) rfl rfl g_a0 d6_41 (pc' := 44) rfl ?_
    intro T h7 P W6
    replace O := O.put1 hw W6
    replace A := A.other W6 (Ne.symm ne_a0_t)
    replace K := K.wr W6 (Or.inl (by simp))
    refine G.iloadN P d6_44 rfl (pc' := 45) rfl ?_
    refine G.iastore P A (i := k) hk hk2 g_t d6_45 (pc' := 46) rfl ?_
    intro T h9 P W8
    replace O := O.other W8 ne_a0_t
    replace A := A.same W8
    replace K := K.wr W8 (Or.inl (by simp))
    obtain ⟨F10, hF10⟩ : ∃ q : Nat → Int32, (oupd f k p1) = q := ⟨_, rfl⟩
    rw [hF10] at A
    subst hx5 hF10
    exact G.return_ P rfl d6_46 (by decide) (by decide) ⟨rfl, K, O, A⟩
  · exact absurd c9 (own_no hk hk2)
theorem d5_0 : decode prog_9_method_6_code 0 = .ok (.iconst 0, 1) := by decide +kernel
theorem d5_1 : decode prog_9_method_6_code 1 = .ok (.istore_n 2, 1) := by decide +kernel
theorem d5_2 : decode prog_9_method_6_code 2 = .ok (.aload_n 0, 1) := by decide +kernel
theorem d5_3 : decode prog_9_method_6_code 3 = .ok (.getfield 13, 3) := by decide +kernel
theorem d5_6 : decode prog_9_method_6_code 6 = .ok (.istore_n 3, 1) := by decide +kernel
theorem d5_7 : decode prog_9_method_6_code 7 = .ok (.iload_n 2, 1) := by decide +kernel
theorem d5_8 : decode prog_9_method_6_code 8 = .ok (.iload_n 3, 1) := by decide +kernel
theorem d5_9 : decode prog_9_method_6_code 9 = .ok (.if_icmp .ge 35, 3) := by decide +kernel
theorem d5_12 : decode prog_9_method_6_code 12 = .ok (.iload_n 2, 1) := by decide +kernel
theorem d5_13 : decode prog_9_method_6_code 13 = .ok (.iload_n 3, 1) := by decide +kernel
theorem d5_14 : decode prog_9_method_6_code 14 = .ok (.iadd, 1) := by decide +kernel
theorem d5_15 : decode prog_9_method_6_code 15 = .ok (.iconst 1, 1) := by decide +kernel
theorem d5_16 : decode prog_9_method_6_code 16 = .ok (.iushr, 1) := by decide +kernel
theorem d5_17 : decode prog_9_method_6_code 17 = .ok (.istore 4, 2) := by decide +kernel
theorem d5_19 : decode prog_9_method_6_code 19 = .ok (.aload_n 0, 1) := by decide +kernel
theorem d5_20 : decode prog_9_method_6_code 20 = .ok (.getfield 7, 3) := by decide +kernel
theorem d5_23 : decode prog_9_method_6_code 23 = .ok (.iload 4, 2) := by decide +kernel
theorem d5_25 : decode prog_9_method_6_code 25 = .ok (.iaload, 1) := by decide +kernel
theorem d5_26 : decode prog_9_method_6_code 26 = .ok (.iload_n 1, 1) := by decide +kernel
theorem d5_27 : decode prog_9_method_6_code 27 = .ok (.if_icmp .ge 11, 3) := by decide +kernel
theorem d5_30 : decode prog_9_method_6_code 30 = .ok (.iload 4, 2) := by decide +kernel
theorem d5_32 : decode prog_9_method_6_code 32 = .ok (.iconst 1, 1) := by decide +kernel
theorem d5_33 : decode prog_9_method_6_code 33 = .ok (.iadd, 1) := by decide +kernel
theorem d5_34 : decode prog_9_method_6_code 34 = .ok (.istore_n 2, 1) := by decide +kernel
theorem d5_35 : decode prog_9_method_6_code 35 = .ok (.goto 6, 3) := by decide +kernel
theorem d5_38 : decode prog_9_method_6_code 38 = .ok (.iload 4, 2) := by decide +kernel
theorem d5_40 : decode prog_9_method_6_code 40 = .ok (.istore_n 3, 1) := by decide +kernel
theorem d5_41 : decode prog_9_method_6_code 41 = .ok (.goto (-34), 3) := by decide +kernel
theorem d5_44 : decode prog_9_method_6_code 44 = .ok (.iload_n 2, 1) := by decide +kernel
theorem d5_45 : decode prog_9_method_6_code 45 = .ok (.ireturn, 1) := by decide +kernel
theorem pn_5 : plainName "com/example/rila/rila/store/IntList" = true := by first | (simp [plainName, overriddenIn]; done) | decide +kernel
theorem pd_5 : parseMethodDescriptor "(I)I" = some ⟨[.int], some .int⟩ := by decide +kernel
abbrev room5 : Room := { frames := 0, cells := 0, slots := 0, locals := 0 }
def Q5 (Z : State) (a0 : Addr) (p1 : Int32) (t : Addr) (sz : Int32) (f : Nat → Int32) (k : Nat) (h0 : Heap) (vv : Option Value) (hh : Heap) : Prop := vv = some (.int (Int32.ofNat (own_lb f p1 0 k))) ∧ h0 = hh
theorem ef_5 (m : MethodId) (a0 : Addr) (p1 : Int32) : entryFrame m #[(.ref a0), (.int p1)] 5 = mkF m 0 #[.val (.ref a0), .val (.int p1), .unset, .unset, .unset] [] := by first | (simp [entryFrame, mkF, argsToLocals, Value.category]; done) | rfl
set_option maxRecDepth 65536 in
set_option maxHeartbeats 40000000 in
theorem rm5 {l : Launch} {Z : State} {aw : Array Value} (hw : ∀ d ∈ tables_1, d.before aw Z = true) {n0 : Nat} (a0 : Addr) (p1 : Int32) (t : Addr) (sz : Int32) (f : Nat → Int32) (k : Nat) (h0 : Heap) (O : ObIL Z h0 a0 (.ref t) (.int sz)) (A : Ints Z h0 t .int 4 f) (ne_a0_t : a0 ≠ t) (hk : sz.toInt = (k : Int)) (hk2 : k ≤ 4) (hn0 : n0 ≤ h0.size) :
    Con l Z (⟨"com/example/rila/rila/store/IntList", "lowerBound", "(I)I"⟩ : MethodName) prog_9_method_6_code 5 (some .int) room5 n0 #[(.ref a0), (.int p1)] h0 (Q5 Z a0 p1 t sz f k h0) := by
  refine Con.body (plainFor_of_name pn_5) hn0 (fun m => ef_5 m a0 p1) ?_
  intro p e s m below meth c T P
  refine G.iconst P d5_0 (v := (0 : Int32)) rfl (pc' := 1) rfl ?_
  refine G.istoreN P d5_1 rfl (L' := #[.val (.ref a0), .val (.int p1), .val (.int (0 : Int32)), .unset, .unset]) rfl (pc' := 2) rfl ?_
  refine G.aloadN P d5_2 rfl rfl (pc' := 3) rfl ?_
  refine G.getF P (host := "") (Or.inl (wd hw (i := 26) rfl)) Via.refl O.2.2 d5_3 (pc' := 6) rfl ?_
  intro T P
  refine G.istoreN P d5_6 rfl (L' := #[.val (.ref a0), .val (.int p1), .val (.int (0 : Int32)), .val (.int sz), .unset]) rfl (pc' := 7) rfl ?_
  have loop7 : ∀ (nL : Nat) (T : State) (lo : Nat) (hi : Nat) (jl : Int32) (jh : Int32) (sl : Slot), nL = hi - lo → (jl.toInt = (lo : Int)) → (jh.toInt = (hi : Int)) → (hi ≤ 4) → (One sl) → (own_lb f p1 0 k = own_lb f p1 lo hi) → Pos Z (⟨"com/example/rila/rila/store/IntList", "lowerBound", "(I)I"⟩ : MethodName) prog_9_method_6_code 5 (some .int) n0 p l e room5 s m #[(.ref a0), (.int p1)] below meth c T h0 0 0 → Goes p e below s n0 room5.cells room5.slots (Q5 Z a0 p1 t sz f k h0) (T.setTop (mkF m 7 #[.val (.ref a0), .val (.int p1), .val (.int jl), .val (.int jh), sl] [])) := by
    intro nL
    induction nL using Nat.strongRecOn with
    | _ nL ih7 =>
      intro T lo hi jl jh sl hn7 hl hh hk' hsl hv P
      refine G.iloadN P d5_7 rfl (pc' := 8) rfl ?_
      refine G.iloadN P d5_8 rfl (pc' := 9) rfl ?_
      refine G.icmp_ge P d5_9 (by decide) (pcY := 44) (by decide) (pcN := 12) rfl (fun c9 => ?_) (fun c9 => ?_)
      · refine G.iloadN P d5_44 rfl (pc' := 45) rfl ?_
        exact G.ireturn P rfl d5_45 (by decide) (by decide) ⟨congrArg (fun z => some (Value.int z)) (by rw [hv, own_end _ _ _ _ (own_ge hl hh c9)]; exact own_nat hl), rfl⟩
      · refine G.iloadN P d5_12 rfl (pc' := 13) rfl ?_
        refine G.iloadN P d5_13 rfl (pc' := 14) rfl ?_
        refine G.iadd P d5_14 (pc' := 15) rfl ?_
        refine G.iconst P d5_15 (v := (1 : Int32)) rfl (pc' := 16) rfl ?_
        refine G.iushr P d5_16 (pc' := 17) rfl ?_
        obtain ⟨x11, hx11⟩ : ∃ z : Int32, (((jl + jh).toUInt32 >>> ((1 : Int32) &&& 31).toUInt32).toInt32) = z := ⟨_, rfl⟩
        refine G.istore P d5_17 hx11 (L' := #[.val (.ref a0), .val (.int p1), .val (.int jl), .val (.int jh), .val (.int x11)]) (by rcases hsl with rfl | ⟨w, rfl, hw⟩ <;> first | rfl | (cases w <;> first | rfl | (simp [Value.category] at hw))) (pc' := 19) rfl ?_
        refine G.aloadN P d5_19 rfl rfl (pc' := 20) rfl ?_
        refine G.getF P (host := "") (Or.inl (wd hw (i := 15) rfl)) Via.refl O.2.1 d5_20 (pc' := 23) rfl ?_
        intro T P
        refine G.iload P d5_23 rfl (pc' := 25) rfl ?_
        refine G.iaload P A (i := ((lo + hi) / 2)) (own_mid hl hh (by have q := own_lt hl hh c9; omega) hk' hx11) (by have q := own_lt hl hh c9; omega) d5_25 (pc' := 26) rfl ?_
        generalize hx12 : (f ((lo + hi) / 2)) = x12
        refine G.iloadN P d5_26 rfl (pc' := 27) rfl ?_
        refine G.icmp_ge P d5_27 (by decide) (pcY := 38) (by decide) (pcN := 30) rfl (fun c27 => ?_) (fun c27 => ?_)
        · refine G.iload P d5_38 rfl (pc' := 40) rfl ?_
          refine G.istoreN P d5_40 rfl (L' := #[.val (.ref a0), .val (.int p1), .val (.int jl), .val (.int x11), .val (.int x11)]) rfl (pc' := 41) rfl ?_
          refine G.goto P d5_41 (by decide) (pc' := 7) (by decide) ?_
          exact ih7 _ (by have q := own_lt hl hh c9; omega) T lo ((lo + hi) / 2) jl x11 (.val (.int x11)) rfl hl (own_mid hl hh (by have q := own_lt hl hh c9; omega) hk' hx11) (by have q := own_lt hl hh c9; omega) (One.val rfl) (by rw [hv, own_dn _ _ _ _ (own_lt hl hh c9) (by subst hx12; exact c27)]) P
        · refine G.iload P d5_30 rfl (pc' := 32) rfl ?_
          refine G.iconst P d5_32 (v := (1 : Int32)) rfl (pc' := 33) rfl ?_
          refine G.iadd P d5_33 (pc' := 34) rfl ?_
          obtain ⟨x13, hx13⟩ : ∃ z : Int32, (x11 + (1 : Int32)) = z := ⟨_, rfl⟩
          refine G.istoreN P d5_34 hx13 (L' := #[.val (.ref a0), .val (.int p1), .val (.int x13), .val (.int jh), .val (.int x11)]) rfl (pc' := 35) rfl ?_
          refine G.goto P d5_35 (by decide) (pc' := 41) (by decide) ?_
          refine G.goto P d5_41 (by decide) (pc' := 7) (by decide) ?_
          exact ih7 _ (by have q := own_lt hl hh c9; omega) T (((lo + hi) / 2) + 1) hi x13 jh (.val (.int x11)) rfl (by rw [← hx13]; exact own_inc (own_mid hl hh (by have q := own_lt hl hh c9; omega) hk' hx11) (by have q := own_lt hl hh c9; omega)) hh hk' (One.val rfl) (by rw [hv, own_up _ _ _ _ (own_lt hl hh c9) (by subst hx12; exact c27)]) P
  exact loop7 _ T 0 k (0 : Int32) sz .unset rfl (by decide) hk hk2 One.u rfl P
theorem own_five (x k : Int32) (h : (x &&& 2147483647) % 5 = k) : k = 0 ∨ k = 1 ∨ k = 2 ∨ k = 3 ∨ k = 4 := by
  have h1 := c_mask x 2147483647 31 (by decide) (by decide)
  have h2 := (c_irem (x &&& 2147483647) 5 5 (by decide)).1 (by omega)
  rw [h] at h2
  have h3 := rng32 k
  have key : k.toInt = 0 ∨ k.toInt = 1 ∨ k.toInt = 2 ∨ k.toInt = 3 ∨ k.toInt = 4 := by omega
  rcases key with q | q | q | q | q
  · exact Or.inl (Int32.toInt_inj.mp (q.trans (by decide)))
  · exact Or.inr (Or.inl (Int32.toInt_inj.mp (q.trans (by decide))))
  · exact Or.inr (Or.inr (Or.inl (Int32.toInt_inj.mp (q.trans (by decide)))))
  · exact Or.inr (Or.inr (Or.inr (Or.inl (Int32.toInt_inj.mp (q.trans (by decide))))))
  · exact Or.inr (Or.inr (Or.inr (Or.inr (Int32.toInt_inj.mp (q.trans (by decide))))))
theorem own_tr {a b v : Int32} (h : ¬ b < a) (q : b < v) : a < v := by rw [Int32.lt_iff_toInt_lt] at *; omega
theorem own_tr' {a b v : Int32} (h : ¬ b < a) (q : ¬ a < v) : ¬ b < v := by rw [Int32.lt_iff_toInt_lt] at *; omega
theorem own_b1 (x v : Int32) : f4 1 x v = if x < v then 1 else 0 := by
  by_cases h : x < v
  · simp only [f4, if_pos h]; decide
  · simp only [f4, if_neg h]; decide
theorem own_b0 (x v : Int32) : f4 0 x v = 0 := by simp only [f4]; exact if_pos trivial
theorem own_max (a b : Int32) : ¬ f1 a b < a := by
  simp only [f1]
  by_cases h : a < b
  · rw [if_pos h]; rw [Int32.lt_iff_toInt_lt] at *; omega
  · rw [if_neg h]; rw [Int32.lt_iff_toInt_lt] at *; omega
theorem own_k1 (f : Nat → Int32) (a b c d v : Int32) (e0 : f 0 = a) : Int32.ofNat (own_lb f v 0 1) = ((f4 1 a v + f4 0 b v) + f4 0 c v) + f4 0 d v := by
  rw [own_b1, own_b0, own_b0, own_b0]
  by_cases q0 : a < v
  · rw [own_up f v 0 1 (by omega) (by show f 0 < v; rw [e0]; exact q0), own_end _ _ _ _ (by omega), if_pos q0]; rfl
  · rw [own_dn f v 0 1 (by omega) (by show ¬ f 0 < v; rw [e0]; exact q0), own_end _ _ _ _ (by omega), if_neg q0]; rfl
theorem own_k2 (f : Nat → Int32) (a b c d v : Int32) (e0 : f 0 = a) (e1 : f 1 = b) (h1 : ¬ b < a) : Int32.ofNat (own_lb f v 0 2) = ((f4 1 a v + f4 1 b v) + f4 0 c v) + f4 0 d v := by
  rw [own_b1, own_b1, own_b0, own_b0]
  by_cases q1 : b < v
  · rw [own_up f v 0 2 (by omega) (by show f 1 < v; rw [e1]; exact q1), own_end _ _ _ _ (by omega), if_pos q1, if_pos (own_tr h1 q1)]; rfl
  · rw [own_dn f v 0 2 (by omega) (by show ¬ f 1 < v; rw [e1]; exact q1), if_neg q1]
    show Int32.ofNat (own_lb f v 0 1) = _
    by_cases q0 : a < v
    · rw [own_up f v 0 1 (by omega) (by show f 0 < v; rw [e0]; exact q0), own_end _ _ _ _ (by omega), if_pos q0]; rfl
    · rw [own_dn f v 0 1 (by omega) (by show ¬ f 0 < v; rw [e0]; exact q0), own_end _ _ _ _ (by omega), if_neg q0]; rfl
theorem own_k3 (f : Nat → Int32) (a b c d v : Int32) (e0 : f 0 = a) (e1 : f 1 = b) (e2 : f 2 = c) (h1 : ¬ b < a) (h2 : ¬ c < b) : Int32.ofNat (own_lb f v 0 3) = ((f4 1 a v + f4 1 b v) + f4 1 c v) + f4 0 d v := by
  rw [own_b1, own_b1, own_b1, own_b0]
  by_cases q1 : b < v
  · rw [own_up f v 0 3 (by omega) (by show f 1 < v; rw [e1]; exact q1), if_pos q1, if_pos (own_tr h1 q1)]
    show Int32.ofNat (own_lb f v 2 3) = _
    by_cases q2 : c < v
    · rw [own_up f v 2 3 (by omega) (by show f 2 < v; rw [e2]; exact q2), own_end _ _ _ _ (by omega), if_pos q2]; rfl
    · rw [own_dn f v 2 3 (by omega) (by show ¬ f 2 < v; rw [e2]; exact q2), own_end _ _ _ _ (by omega), if_neg q2]; rfl
  · rw [own_dn f v 0 3 (by omega) (by show ¬ f 1 < v; rw [e1]; exact q1), if_neg q1, if_neg (own_tr' h2 q1)]
    show Int32.ofNat (own_lb f v 0 1) = _
    by_cases q0 : a < v
    · rw [own_up f v 0 1 (by omega) (by show f 0 < v; rw [e0]; exact q0), own_end _ _ _ _ (by omega), if_pos q0]; rfl
    · rw [own_dn f v 0 1 (by omega) (by show ¬ f 0 < v; rw [e0]; exact q0), own_end _ _ _ _ (by omega), if_neg q0]; rfl
theorem own_k4 (f : Nat → Int32) (a b c d v : Int32) (e0 : f 0 = a) (e1 : f 1 = b) (e2 : f 2 = c) (e3 : f 3 = d) (h1 : ¬ b < a) (h2 : ¬ c < b) (h3 : ¬ d < c) : Int32.ofNat (own_lb f v 0 4) = ((f4 1 a v + f4 1 b v) + f4 1 c v) + f4 1 d v := by
  rw [own_b1, own_b1, own_b1, own_b1]
  by_cases q2 : c < v
  · rw [own_up f v 0 4 (by omega) (by show f 2 < v; rw [e2]; exact q2), if_pos q2, if_pos (own_tr h2 q2), if_pos (own_tr h1 (own_tr h2 q2))]
    show Int32.ofNat (own_lb f v 3 4) = _
    by_cases q3 : d < v
    · rw [own_up f v 3 4 (by omega) (by show f 3 < v; rw [e3]; exact q3), own_end _ _ _ _ (by omega), if_pos q3]; rfl
    · rw [own_dn f v 3 4 (by omega) (by show ¬ f 3 < v; rw [e3]; exact q3), own_end _ _ _ _ (by omega), if_neg q3]; rfl
  · rw [own_dn f v 0 4 (by omega) (by show ¬ f 2 < v; rw [e2]; exact q2), if_neg q2, if_neg (own_tr' h3 q2)]
    show Int32.ofNat (own_lb f v 0 2) = _
    by_cases q1 : b < v
    · rw [own_up f v 0 2 (by omega) (by show f 1 < v; rw [e1]; exact q1), own_end _ _ _ _ (by omega), if_pos q1, if_pos (own_tr h1 q1)]; rfl
    · rw [own_dn f v 0 2 (by omega) (by show ¬ f 1 < v; rw [e1]; exact q1), if_neg q1]
      show Int32.ofNat (own_lb f v 0 1) = _
      by_cases q0 : a < v
      · rw [own_up f v 0 1 (by omega) (by show f 0 < v; rw [e0]; exact q0), own_end _ _ _ _ (by omega), if_pos q0]; rfl
      · rw [own_dn f v 0 1 (by omega) (by show ¬ f 0 < v; rw [e0]; exact q0), own_end _ _ _ _ (by omega), if_neg q0]; rfl
theorem own_g1 (g : Nat → Int32) (v0 : Int32) : (oupd g 0 v0) 0 = v0 := by simp [oupd]
theorem own_g2 (g : Nat → Int32) (v0 v1 : Int32) : (oupd (oupd g 0 v0) 1 v1) 0 = v0 ∧ (oupd (oupd g 0 v0) 1 v1) 1 = v1 := by simp [oupd]
theorem own_g3 (g : Nat → Int32) (v0 v1 v2 : Int32) : (oupd (oupd (oupd g 0 v0) 1 v1) 2 v2) 0 = v0 ∧ (oupd (oupd (oupd g 0 v0) 1 v1) 2 v2) 1 = v1 ∧ (oupd (oupd (oupd g 0 v0) 1 v1) 2 v2) 2 = v2 := by simp [oupd]
theorem own_g4 (g : Nat → Int32) (v0 v1 v2 v3 : Int32) : (oupd (oupd (oupd (oupd g 0 v0) 1 v1) 2 v2) 3 v3) 0 = v0 ∧ (oupd (oupd (oupd (oupd g 0 v0) 1 v1) 2 v2) 3 v3) 1 = v1 ∧ (oupd (oupd (oupd (oupd g 0 v0) 1 v1) 2 v2) 3 v3) 2 = v2 ∧ (oupd (oupd (oupd (oupd g 0 v0) 1 v1) 2 v2) 3 v3) 3 = v3 := by simp [oupd]
theorem pn_0 : plainName "com/example/rila/rila/store/IntListLowerBoundPinLaw" = true := by first | (simp [plainName, overriddenIn]; done) | decide +kernel
theorem pd_0 : parseMethodDescriptor "(IIIIII)Z" = some ⟨[.int, .int, .int, .int, .int, .int], some .boolean⟩ := by decide +kernel
def Q0 (Z : State) (p0 : Int32) (p1 : Int32) (p2 : Int32) (p3 : Int32) (p4 : Int32) (p5 : Int32) (h0 : Heap) (vv : Option Value) (hh : Heap) : Prop := vv = some (.int 1) ∧ True
theorem ef_0 (m : MethodId) (p0 : Int32) (p1 : Int32) (p2 : Int32) (p3 : Int32) (p4 : Int32) (p5 : Int32) : entryFrame m #[(.int p0), (.int p1), (.int p2), (.int p3), (.int p4), (.int p5)] maxLocals = mkF m 0 #[.val (.int p0), .val (.int p1), .val (.int p2), .val (.int p3), .val (.int p4), .val (.int p5), .unset, .unset, .unset, .unset, .unset, .unset, .unset] [] := by first | (simp [entryFrame, mkF, argsToLocals, Value.category, maxLocals]; done) | rfl
set_option maxRecDepth 65536 in
set_option maxHeartbeats 40000000 in
theorem rm0 {l : Launch} {Z : State} {aw : Array Value} (hw : ∀ d ∈ tables_1, d.before aw Z = true) {n0 : Nat} (p0 : Int32) (p1 : Int32) (p2 : Int32) (p3 : Int32) (p4 : Int32) (p5 : Int32) (h0 : Heap) (hn0 : n0 ≤ h0.size) :
    Con l Z x code maxLocals ret room_1 n0 #[(.int p0), (.int p1), (.int p2), (.int p3), (.int p4), (.int p5)] h0 (Q0 Z p0 p1 p2 p3 p4 p5 h0) := by
  refine Con.body (plainFor_of_name pn_0) hn0 (fun m => ef_0 m p0 p1 p2 p3 p4 p5) ?_
  intro p e s m below meth c T P
  refine G.iloadN P at_0 rfl (pc' := 1) rfl ?_
  refine G.ldcI P (wd hw (i := 0) rfl) at_1 (pc' := 3) rfl ?_
  refine G.iand P at_3 (pc' := 4) rfl ?_
  refine G.iconst P at_4 (v := (5 : Int32)) rfl (pc' := 5) rfl ?_
  refine G.irem P at_5 (by decide) (pc' := 6) rfl ?_
  obtain ⟨x14, hx14⟩ : ∃ z : Int32, ((p0 &&& (2147483647 : Int32)) % (5 : Int32)) = z := ⟨_, rfl⟩
  refine G.istore P at_6 hx14 (L' := #[.val (.int p0), .val (.int p1), .val (.int p2), .val (.int p3), .val (.int p4), .val (.int p5), .val (.int x14), .unset, .unset, .unset, .unset, .unset, .unset]) rfl (pc' := 8) rfl ?_
  rcases own_five _ _ hx14 with q | q | q | q | q
  · subst q
    refine G.iloadN P at_8 rfl (pc' := 9) rfl ?_
    refine G.istore P at_9 rfl (L' := #[.val (.int p0), .val (.int p1), .val (.int p2), .val (.int p3), .val (.int p4), .val (.int p5), .val (.int (0 : Int32)), .val (.int p1), .unset, .unset, .unset, .unset, .unset]) rfl (pc' := 11) rfl ?_
    refine G.iload P at_11 rfl (pc' := 13) rfl ?_
    refine G.iloadN P at_13 rfl (pc' := 14) rfl ?_
    refine G.callS P (wd hw (i := 1) rfl) (wd hw (i := 2) rfl) (wd hw (i := 3) rfl) (wd hw (i := 4) rfl) (by decide) (argsL := [(.int p1), (.int p2)]) (rm1 hw p1 p2 h0 P.sz) (by decide) (by decide) (cells' := 0) rfl (slots' := 0) rfl (by decide) (by decide) (lenOf pd_1 rfl) rfl (rest := []) rfl (W := 0) (Nat.le_of_eq rfl) at_14 (pc' := 17) rfl ?_
    rintro T _ _ P ⟨rfl, rfl⟩
    show Goes p e below s n0 room_1.cells room_1.slots (Q0 Z p0 p1 p2 p3 p4 p5 h0) (T.setTop (mkF m 17 #[.val (.int p0), .val (.int p1), .val (.int p2), .val (.int p3), .val (.int p4), .val (.int p5), .val (.int (0 : Int32)), .val (.int p1), .unset, .unset, .unset, .unset, .unset] [(.int (f1 p1 p2))]))
    generalize hr15 : (f1 p1 p2) = r15
    refine G.istore P at_17 rfl (L' := #[.val (.int p0), .val (.int p1), .val (.int p2), .val (.int p3), .val (.int p4), .val (.int p5), .val (.int (0 : Int32)), .val (.int p1), .val (.int r15), .unset, .unset, .unset, .unset]) rfl (pc' := 19) rfl ?_
    refine G.iload P at_19 rfl (pc' := 21) rfl ?_
    refine G.iloadN P at_21 rfl (pc' := 22) rfl ?_
    refine G.callS P (wd hw (i := 1) rfl) (wd hw (i := 2) rfl) (wd hw (i := 3) rfl) (wd hw (i := 4) rfl) (by decide) (argsL := [(.int r15), (.int p3)]) (rm1 hw r15 p3 h0 P.sz) (by decide) (by decide) (cells' := 0) rfl (slots' := 0) rfl (by decide) (by decide) (lenOf pd_1 rfl) rfl (rest := []) rfl (W := 0) (Nat.le_of_eq rfl) at_22 (pc' := 25) rfl ?_
    rintro T _ _ P ⟨rfl, rfl⟩
    show Goes p e below s n0 room_1.cells room_1.slots (Q0 Z p0 p1 p2 p3 p4 p5 h0) (T.setTop (mkF m 25 #[.val (.int p0), .val (.int p1), .val (.int p2), .val (.int p3), .val (.int p4), .val (.int p5), .val (.int (0 : Int32)), .val (.int p1), .val (.int r15), .unset, .unset, .unset, .unset] [(.int (f1 r15 p3))]))
    generalize hr16 : (f1 r15 p3) = r16
    refine G.istore P at_25 rfl (L' := #[.val (.int p0), .val (.int p1), .val (.int p2), .val (.int p3), .val (.int p4), .val (.int p5), .val (.int (0 : Int32)), .val (.int p1), .val (.int r15), .val (.int r16), .unset, .unset, .unset]) rfl (pc' := 27) rfl ?_
    refine G.iload P at_27 rfl (pc' := 29) rfl ?_
    refine G.iload P at_29 rfl (pc' := 31) rfl ?_
    refine G.callS P (wd hw (i := 1) rfl) (wd hw (i := 2) rfl) (wd hw (i := 3) rfl) (wd hw (i := 4) rfl) (by decide) (argsL := [(.int r16), (.int p4)]) (rm1 hw r16 p4 h0 P.sz) (by decide) (by decide) (cells' := 0) rfl (slots' := 0) rfl (by decide) (by decide) (lenOf pd_1 rfl) rfl (rest := []) rfl (W := 0) (Nat.le_of_eq rfl) at_31 (pc' := 34) rfl ?_
    rintro T _ _ P ⟨rfl, rfl⟩
    show Goes p e below s n0 room_1.cells room_1.slots (Q0 Z p0 p1 p2 p3 p4 p5 h0) (T.setTop (mkF m 34 #[.val (.int p0), .val (.int p1), .val (.int p2), .val (.int p3), .val (.int p4), .val (.int p5), .val (.int (0 : Int32)), .val (.int p1), .val (.int r15), .val (.int r16), .unset, .unset, .unset] [(.int (f1 r16 p4))]))
    generalize hr17 : (f1 r16 p4) = r17
    refine G.istore P at_34 rfl (L' := #[.val (.int p0), .val (.int p1), .val (.int p2), .val (.int p3), .val (.int p4), .val (.int p5), .val (.int (0 : Int32)), .val (.int p1), .val (.int r15), .val (.int r16), .val (.int r17), .unset, .unset]) rfl (pc' := 36) rfl ?_
    refine G.new P (wd hw (i := 5) rfl) (wd hw (i := 6) rfl) (wd hw (i := 7) rfl) at_36 (cells' := 1) rfl (slots' := 2) rfl (by decide) (by decide) (pc' := 39) rfl ?_
    intro T h18 b18 hb18 g_b18 P E18 X18 D18
    have O18 := ObIL.new hw X18 @D18
    refine G.dup P at_39 rfl (pc' := 40) rfl ?_
    refine G.callI P rfl (wd hw (i := 8) rfl) (wd hw (i := 9) rfl) (wd hw (i := 7) rfl) (wd hw (i := 10) rfl) (by decide) (argsL := []) (a := b18) (rm2 hw b18 h18 O18 g_b18 P.sz) (by decide) (by decide) (cells' := 2) rfl (slots' := 6) rfl (by decide) (by decide) (lenOf pd_2 rfl) rfl (rest := [(.ref b18)]) rfl (W := 1) (Nat.le_of_eq rfl) at_40 (pc' := 43) rfl ?_
    have old_b21 := P.sz
    rintro T h19 _ P ⟨b21, rfl, sz_b21, K20, Ob21, O18'⟩
    have g_b21 : n0 ≤ b21 := Nat.le_trans old_b21 sz_b21
    have ne_b18_b21 : b18 ≠ b21 := Nat.ne_of_lt (Nat.lt_of_lt_of_le O18.lt sz_b21)
    replace O18 := O18'
    show Goes p e below s n0 room_1.cells room_1.slots (Q0 Z p0 p1 p2 p3 p4 p5 h0) (T.setTop (mkF m 43 #[.val (.int p0), .val (.int p1), .val (.int p2), .val (.int p3), .val (.int p4), .val (.int p5), .val (.int (0 : Int32)), .val (.int p1), .val (.int r15), .val (.int r16), .val (.int r17), .unset, .unset] [(.ref b18)]))
    refine G.astore P at_43 rfl (L' := #[.val (.int p0), .val (.int p1), .val (.int p2), .val (.int p3), .val (.int p4), .val (.int p5), .val (.int (0 : Int32)), .val (.int p1), .val (.int r15), .val (.int r16), .val (.int r17), .val (.ref b18), .unset]) rfl (pc' := 45) rfl ?_
    refine G.iload P at_45 rfl (pc' := 47) rfl ?_
    refine G.if_le P at_47 (by decide) (pcY := 57) (by decide) (pcN := 50) rfl (fun _ => ?_) (fun c => absurd c (by decide))
    refine G.iload P at_57 rfl (pc' := 59) rfl ?_
    refine G.iconst P at_59 (v := (1 : Int32)) rfl (pc' := 60) rfl ?_
    refine G.icmp_le P at_60 (by decide) (pcY := 70) (by decide) (pcN := 63) rfl (fun _ => ?_) (fun c => absurd c (by decide))
    refine G.iload P at_70 rfl (pc' := 72) rfl ?_
    refine G.iconst P at_72 (v := (2 : Int32)) rfl (pc' := 73) rfl ?_
    refine G.icmp_le P at_73 (by decide) (pcY := 83) (by decide) (pcN := 76) rfl (fun _ => ?_) (fun c => absurd c (by decide))
    refine G.iload P at_83 rfl (pc' := 85) rfl ?_
    refine G.iconst P at_85 (v := (3 : Int32)) rfl (pc' := 86) rfl ?_
    refine G.icmp_le P at_86 (by decide) (pcY := 96) (by decide) (pcN := 89) rfl (fun _ => ?_) (fun c => absurd c (by decide))
    refine G.iload P at_96 rfl (pc' := 98) rfl ?_
    refine G.if_le P at_98 (by decide) (pcY := 105) (by decide) (pcN := 101) rfl (fun _ => ?_) (fun c => absurd c (by decide))
    refine G.iconst P at_105 (v := (0 : Int32)) rfl (pc' := 106) rfl ?_
    refine G.iload P at_106 rfl (pc' := 108) rfl ?_
    refine G.iload P at_108 rfl (pc' := 110) rfl ?_
    refine G.callS P (wd hw (i := 17) rfl) (wd hw (i := 18) rfl) (wd hw (i := 19) rfl) (wd hw (i := 20) rfl) (by decide) (argsL := [(.int (0 : Int32)), (.int p1), (.int p5)]) (rm4 hw (0 : Int32) p1 p5 h19 P.sz) (by decide) (by decide) (cells' := 2) rfl (slots' := 6) rfl (by decide) (by decide) (lenOf pd_4 rfl) rfl (rest := []) rfl (W := 0) (Nat.le_of_eq rfl) at_110 (pc' := 113) rfl ?_
    rintro T _ _ P ⟨rfl, rfl⟩
    show Goes p e below s n0 room_1.cells room_1.slots (Q0 Z p0 p1 p2 p3 p4 p5 h0) (T.setTop (mkF m 113 #[.val (.int p0), .val (.int p1), .val (.int p2), .val (.int p3), .val (.int p4), .val (.int p5), .val (.int (0 : Int32)), .val (.int p1), .val (.int r15), .val (.int r16), .val (.int r17), .val (.ref b18), .unset] [(.int (f4 (0 : Int32) p1 p5))]))
    generalize hr22 : (f4 (0 : Int32) p1 p5) = r22
    refine G.iload P at_113 rfl (pc' := 115) rfl ?_
    refine G.iconst P at_115 (v := (1 : Int32)) rfl (pc' := 116) rfl ?_
    refine G.icmp_le P at_116 (by decide) (pcY := 123) (by decide) (pcN := 119) rfl (fun _ => ?_) (fun c => absurd c (by decide))
    refine G.iconst P at_123 (v := (0 : Int32)) rfl (pc' := 124) rfl ?_
    refine G.iload P at_124 rfl (pc' := 126) rfl ?_
    refine G.iload P at_126 rfl (pc' := 128) rfl ?_
    refine G.callS P (wd hw (i := 17) rfl) (wd hw (i := 18) rfl) (wd hw (i := 19) rfl) (wd hw (i := 20) rfl) (by decide) (argsL := [(.int (0 : Int32)), (.int r15), (.int p5)]) (rm4 hw (0 : Int32) r15 p5 h19 P.sz) (by decide) (by decide) (cells' := 2) rfl (slots' := 6) rfl (by decide) (by decide) (lenOf pd_4 rfl) rfl (rest := [(.int r22)]) rfl (W := 1) (Nat.le_of_eq rfl) at_128 (pc' := 131) rfl ?_
    rintro T _ _ P ⟨rfl, rfl⟩
    show Goes p e below s n0 room_1.cells room_1.slots (Q0 Z p0 p1 p2 p3 p4 p5 h0) (T.setTop (mkF m 131 #[.val (.int p0), .val (.int p1), .val (.int p2), .val (.int p3), .val (.int p4), .val (.int p5), .val (.int (0 : Int32)), .val (.int p1), .val (.int r15), .val (.int r16), .val (.int r17), .val (.ref b18), .unset] [(.int (f4 (0 : Int32) r15 p5)), (.int r22)]))
    generalize hr23 : (f4 (0 : Int32) r15 p5) = r23
    refine G.iadd P at_131 (pc' := 132) rfl ?_
    refine G.iload P at_132 rfl (pc' := 134) rfl ?_
    refine G.iconst P at_134 (v := (2 : Int32)) rfl (pc' := 135) rfl ?_
    refine G.icmp_le P at_135 (by decide) (pcY := 142) (by decide) (pcN := 138) rfl (fun _ => ?_) (fun c => absurd c (by decide))
    refine G.iconst P at_142 (v := (0 : Int32)) rfl (pc' := 143) rfl ?_
    refine G.iload P at_143 rfl (pc' := 145) rfl ?_
    refine G.iload P at_145 rfl (pc' := 147) rfl ?_
    refine G.callS P (wd hw (i := 17) rfl) (wd hw (i := 18) rfl) (wd hw (i := 19) rfl) (wd hw (i := 20) rfl) (by decide) (argsL := [(.int (0 : Int32)), (.int r16), (.int p5)]) (rm4 hw (0 : Int32) r16 p5 h19 P.sz) (by decide) (by decide) (cells' := 2) rfl (slots' := 6) rfl (by decide) (by decide) (lenOf pd_4 rfl) rfl (rest := [(.int (r22 + r23))]) rfl (W := 1) (Nat.le_of_eq rfl) at_147 (pc' := 150) rfl ?_
    rintro T _ _ P ⟨rfl, rfl⟩
    show Goes p e below s n0 room_1.cells room_1.slots (Q0 Z p0 p1 p2 p3 p4 p5 h0) (T.setTop (mkF m 150 #[.val (.int p0), .val (.int p1), .val (.int p2), .val (.int p3), .val (.int p4), .val (.int p5), .val (.int (0 : Int32)), .val (.int p1), .val (.int r15), .val (.int r16), .val (.int r17), .val (.ref b18), .unset] [(.int (f4 (0 : Int32) r16 p5)), (.int (r22 + r23))]))
    generalize hr24 : (f4 (0 : Int32) r16 p5) = r24
    refine G.iadd P at_150 (pc' := 151) rfl ?_
    refine G.iload P at_151 rfl (pc' := 153) rfl ?_
    refine G.iconst P at_153 (v := (3 : Int32)) rfl (pc' := 154) rfl ?_
    refine G.icmp_le P at_154 (by decide) (pcY := 161) (by decide) (pcN := 157) rfl (fun _ => ?_) (fun c => absurd c (by decide))
    refine G.iconst P at_161 (v := (0 : Int32)) rfl (pc' := 162) rfl ?_
    refine G.iload P at_162 rfl (pc' := 164) rfl ?_
    refine G.iload P at_164 rfl (pc' := 166) rfl ?_
    refine G.callS P (wd hw (i := 17) rfl) (wd hw (i := 18) rfl) (wd hw (i := 19) rfl) (wd hw (i := 20) rfl) (by decide) (argsL := [(.int (0 : Int32)), (.int r17), (.int p5)]) (rm4 hw (0 : Int32) r17 p5 h19 P.sz) (by decide) (by decide) (cells' := 2) rfl (slots' := 6) rfl (by decide) (by decide) (lenOf pd_4 rfl) rfl (rest := [(.int ((r22 + r23) + r24))]) rfl (W := 1) (Nat.le_of_eq rfl) at_166 (pc' := 169) rfl ?_
    rintro T _ _ P ⟨rfl, rfl⟩
    show Goes p e below s n0 room_1.cells room_1.slots (Q0 Z p0 p1 p2 p3 p4 p5 h0) (T.setTop (mkF m 169 #[.val (.int p0), .val (.int p1), .val (.int p2), .val (.int p3), .val (.int p4), .val (.int p5), .val (.int (0 : Int32)), .val (.int p1), .val (.int r15), .val (.int r16), .val (.int r17), .val (.ref b18), .unset] [(.int (f4 (0 : Int32) r17 p5)), (.int ((r22 + r23) + r24))]))
    generalize hr25 : (f4 (0 : Int32) r17 p5) = r25
    refine G.iadd P at_169 (pc' := 170) rfl ?_
    obtain ⟨x26, hx26⟩ : ∃ z : Int32, (((r22 + r23) + r24) + r25) = z := ⟨_, rfl⟩
    refine G.istore P at_170 hx26 (L' := #[.val (.int p0), .val (.int p1), .val (.int p2), .val (.int p3), .val (.int p4), .val (.int p5), .val (.int (0 : Int32)), .val (.int p1), .val (.int r15), .val (.int r16), .val (.int r17), .val (.ref b18), .val (.int x26)]) rfl (pc' := 172) rfl ?_
    refine G.aload P at_172 rfl rfl (pc' := 174) rfl ?_
    refine G.iload P at_174 rfl (pc' := 176) rfl ?_
    refine G.callV P (wd hw (i := 21) rfl) (wd hw (i := 22) rfl) (wd hw (i := 24) rfl) (wd hw (i := 23) rfl) (wd hw (i := 7) rfl) (wd hw (i := 25) rfl) (by decide) O18.1 (argsL := [(.int p5)]) (a := b18) (rm5 hw b18 p5 b21 (0 : Int32) (lst [(0 : Int32), (0 : Int32), (0 : Int32), (0 : Int32)]) 0 h19 O18 Ob21 ne_b18_b21 own_sz0 (by decide) P.sz) (by decide) (by decide) (cells' := 2) rfl (slots' := 6) rfl (by decide) (by decide) (lenOf pd_5 rfl) rfl (rest := []) rfl (W := 0) (Nat.le_of_eq rfl) at_176 (pc' := 179) rfl ?_
    rintro T _ _ P ⟨rfl, rfl⟩
    show Goes p e below s n0 room_1.cells room_1.slots (Q0 Z p0 p1 p2 p3 p4 p5 h0) (T.setTop (mkF m 179 #[.val (.int p0), .val (.int p1), .val (.int p2), .val (.int p3), .val (.int p4), .val (.int p5), .val (.int (0 : Int32)), .val (.int p1), .val (.int r15), .val (.int r16), .val (.int r17), .val (.ref b18), .val (.int x26)] [(.int (Int32.ofNat (own_lb (lst [(0 : Int32), (0 : Int32), (0 : Int32), (0 : Int32)]) p5 0 0)))]))
    refine G.iload P at_179 rfl (pc' := 181) rfl ?_
    have J189_181 : ∀ (z27 : Int32), z27 = (if (Int32.ofNat (own_lb (lst [(0 : Int32), (0 : Int32), (0 : Int32), (0 : Int32)]) p5 0 0)) = x26 then (1 : Int32) else (0 : Int32)) → Goes p e below s n0 room_1.cells room_1.slots (Q0 Z p0 p1 p2 p3 p4 p5 h0) (T.setTop (mkF m 189 #[.val (.int p0), .val (.int p1), .val (.int p2), .val (.int p3), .val (.int p4), .val (.int p5), .val (.int (0 : Int32)), .val (.int p1), .val (.int r15), .val (.int r16), .val (.int r17), .val (.ref b18), .val (.int x26)] [(.int z27)])) := by
      intro z27 hz27
      have w1 : ¬ r15 < p1 := by rw [← hr15]; exact own_max _ _
      have w2 : ¬ r16 < r15 := by rw [← hr16]; exact own_max _ _
      have w3 : ¬ r17 < r16 := by rw [← hr17]; exact own_max _ _
      have e1 : (Int32.ofNat (own_lb (lst [(0 : Int32), (0 : Int32), (0 : Int32), (0 : Int32)]) p5 0 0)) = x26 := by rw [← hx26, ← hr22, ← hr23, ← hr24, ← hr25]; rw [own_end _ _ _ _ (by omega), own_b0, own_b0, own_b0, own_b0]; rfl
      exact G.ireturnN P (t := .boolean) rfl (by simp) rfl at_189 (by decide) (by decide) ⟨congrArg (fun z => some (Value.int z)) (by rw [hz27, if_pos e1]; rfl), trivial⟩
    refine G.icmp_ne P at_181 (by decide) (pcY := 188) (by decide) (pcN := 184) rfl (fun c181 => ?_) (fun c181 => ?_)
    · refine G.iconst P at_188 (v := (0 : Int32)) rfl (pc' := 189) rfl ?_
      exact J189_181 _ (by simp only [if_neg c181])
    · refine G.iconst P at_184 (v := (1 : Int32)) rfl (pc' := 185) rfl ?_
      refine G.goto P at_185 (by decide) (pc' := 189) (by decide) ?_
      exact J189_181 _ (by simp only [if_pos c181])
  · subst q
    refine G.iloadN P at_8 rfl (pc' := 9) rfl ?_
    refine G.istore P at_9 rfl (L' := #[.val (.int p0), .val (.int p1), .val (.int p2), .val (.int p3), .val (.int p4), .val (.int p5), .val (.int (1 : Int32)), .val (.int p1), .unset, .unset, .unset, .unset, .unset]) rfl (pc' := 11) rfl ?_
    refine G.iload P at_11 rfl (pc' := 13) rfl ?_
    refine G.iloadN P at_13 rfl (pc' := 14) rfl ?_
    refine G.callS P (wd hw (i := 1) rfl) (wd hw (i := 2) rfl) (wd hw (i := 3) rfl) (wd hw (i := 4) rfl) (by decide) (argsL := [(.int p1), (.int p2)]) (rm1 hw p1 p2 h0 P.sz) (by decide) (by decide) (cells' := 0) rfl (slots' := 0) rfl (by decide) (by decide) (lenOf pd_1 rfl) rfl (rest := []) rfl (W := 0) (Nat.le_of_eq rfl) at_14 (pc' := 17) rfl ?_
    rintro T _ _ P ⟨rfl, rfl⟩
    show Goes p e below s n0 room_1.cells room_1.slots (Q0 Z p0 p1 p2 p3 p4 p5 h0) (T.setTop (mkF m 17 #[.val (.int p0), .val (.int p1), .val (.int p2), .val (.int p3), .val (.int p4), .val (.int p5), .val (.int (1 : Int32)), .val (.int p1), .unset, .unset, .unset, .unset, .unset] [(.int (f1 p1 p2))]))
    generalize hr28 : (f1 p1 p2) = r28
    refine G.istore P at_17 rfl (L' := #[.val (.int p0), .val (.int p1), .val (.int p2), .val (.int p3), .val (.int p4), .val (.int p5), .val (.int (1 : Int32)), .val (.int p1), .val (.int r28), .unset, .unset, .unset, .unset]) rfl (pc' := 19) rfl ?_
    refine G.iload P at_19 rfl (pc' := 21) rfl ?_
    refine G.iloadN P at_21 rfl (pc' := 22) rfl ?_
    refine G.callS P (wd hw (i := 1) rfl) (wd hw (i := 2) rfl) (wd hw (i := 3) rfl) (wd hw (i := 4) rfl) (by decide) (argsL := [(.int r28), (.int p3)]) (rm1 hw r28 p3 h0 P.sz) (by decide) (by decide) (cells' := 0) rfl (slots' := 0) rfl (by decide) (by decide) (lenOf pd_1 rfl) rfl (rest := []) rfl (W := 0) (Nat.le_of_eq rfl) at_22 (pc' := 25) rfl ?_
    rintro T _ _ P ⟨rfl, rfl⟩
    show Goes p e below s n0 room_1.cells room_1.slots (Q0 Z p0 p1 p2 p3 p4 p5 h0) (T.setTop (mkF m 25 #[.val (.int p0), .val (.int p1), .val (.int p2), .val (.int p3), .val (.int p4), .val (.int p5), .val (.int (1 : Int32)), .val (.int p1), .val (.int r28), .unset, .unset, .unset, .unset] [(.int (f1 r28 p3))]))
    generalize hr29 : (f1 r28 p3) = r29
    refine G.istore P at_25 rfl (L' := #[.val (.int p0), .val (.int p1), .val (.int p2), .val (.int p3), .val (.int p4), .val (.int p5), .val (.int (1 : Int32)), .val (.int p1), .val (.int r28), .val (.int r29), .unset, .unset, .unset]) rfl (pc' := 27) rfl ?_
    refine G.iload P at_27 rfl (pc' := 29) rfl ?_
    refine G.iload P at_29 rfl (pc' := 31) rfl ?_
    refine G.callS P (wd hw (i := 1) rfl) (wd hw (i := 2) rfl) (wd hw (i := 3) rfl) (wd hw (i := 4) rfl) (by decide) (argsL := [(.int r29), (.int p4)]) (rm1 hw r29 p4 h0 P.sz) (by decide) (by decide) (cells' := 0) rfl (slots' := 0) rfl (by decide) (by decide) (lenOf pd_1 rfl) rfl (rest := []) rfl (W := 0) (Nat.le_of_eq rfl) at_31 (pc' := 34) rfl ?_
    rintro T _ _ P ⟨rfl, rfl⟩
    show Goes p e below s n0 room_1.cells room_1.slots (Q0 Z p0 p1 p2 p3 p4 p5 h0) (T.setTop (mkF m 34 #[.val (.int p0), .val (.int p1), .val (.int p2), .val (.int p3), .val (.int p4), .val (.int p5), .val (.int (1 : Int32)), .val (.int p1), .val (.int r28), .val (.int r29), .unset, .unset, .unset] [(.int (f1 r29 p4))]))
    generalize hr30 : (f1 r29 p4) = r30
    refine G.istore P at_34 rfl (L' := #[.val (.int p0), .val (.int p1), .val (.int p2), .val (.int p3), .val (.int p4), .val (.int p5), .val (.int (1 : Int32)), .val (.int p1), .val (.int r28), .val (.int r29), .val (.int r30), .unset, .unset]) rfl (pc' := 36) rfl ?_
    refine G.new P (wd hw (i := 5) rfl) (wd hw (i := 6) rfl) (wd hw (i := 7) rfl) at_36 (cells' := 1) rfl (slots' := 2) rfl (by decide) (by decide) (pc' := 39) rfl ?_
    intro T h31 b31 hb31 g_b31 P E31 X31 D31
    have O31 := ObIL.new hw X31 @D31
    refine G.dup P at_39 rfl (pc' := 40) rfl ?_
    refine G.callI P rfl (wd hw (i := 8) rfl) (wd hw (i := 9) rfl) (wd hw (i := 7) rfl) (wd hw (i := 10) rfl) (by decide) (argsL := []) (a := b31) (rm2 hw b31 h31 O31 g_b31 P.sz) (by decide) (by decide) (cells' := 2) rfl (slots' := 6) rfl (by decide) (by decide) (lenOf pd_2 rfl) rfl (rest := [(.ref b31)]) rfl (W := 1) (Nat.le_of_eq rfl) at_40 (pc' := 43) rfl ?_
    have old_b34 := P.sz
    rintro T h32 _ P ⟨b34, rfl, sz_b34, K33, Ob34, O31'⟩
    have g_b34 : n0 ≤ b34 := Nat.le_trans old_b34 sz_b34
    have ne_b31_b34 : b31 ≠ b34 := Nat.ne_of_lt (Nat.lt_of_lt_of_le O31.lt sz_b34)
    replace O31 := O31'
    show Goes p e below s n0 room_1.cells room_1.slots (Q0 Z p0 p1 p2 p3 p4 p5 h0) (T.setTop (mkF m 43 #[.val (.int p0), .val (.int p1), .val (.int p2), .val (.int p3), .val (.int p4), .val (.int p5), .val (.int (1 : Int32)), .val (.int p1), .val (.int r28), .val (.int r29), .val (.int r30), .unset, .unset] [(.ref b31)]))
    refine G.astore P at_43 rfl (L' := #[.val (.int p0), .val (.int p1), .val (.int p2), .val (.int p3), .val (.int p4), .val (.int p5), .val (.int (1 : Int32)), .val (.int p1), .val (.int r28), .val (.int r29), .val (.int r30), .val (.ref b31), .unset]) rfl (pc' := 45) rfl ?_
    refine G.iload P at_45 rfl (pc' := 47) rfl ?_
    refine G.if_le P at_47 (by decide) (pcY := 57) (by decide) (pcN := 50) rfl (fun c => absurd c (by decide)) (fun _ => ?_)
    refine G.aload P at_50 rfl rfl (pc' := 52) rfl ?_
    refine G.iload P at_52 rfl (pc' := 54) rfl ?_
    refine G.callV P (wd hw (i := 28) rfl) (wd hw (i := 29) rfl) (wd hw (i := 31) rfl) (wd hw (i := 30) rfl) (wd hw (i := 7) rfl) (wd hw (i := 32) rfl) (by decide) O31.1 (argsL := [(.int p1)]) (a := b31) (rm6 hw b31 p1 b34 (0 : Int32) (lst [(0 : Int32), (0 : Int32), (0 : Int32), (0 : Int32)]) 0 h32 O31 Ob34 ne_b31_b34 g_b31 g_b34 own_sz0 (by decide) P.sz) (by decide) (by decide) (cells' := 2) rfl (slots' := 6) rfl (by decide) (by decide) (lenOf pd_6 rfl) rfl (rest := []) rfl (W := 0) (Nat.le_of_eq rfl) at_54 (pc' := 57) rfl ?_
    clear O31
    clear Ob34
    rintro T h35 _ P ⟨rfl, K36, O31, Ob34⟩
    show Goes p e below s n0 room_1.cells room_1.slots (Q0 Z p0 p1 p2 p3 p4 p5 h0) (T.setTop (mkF m 57 #[.val (.int p0), .val (.int p1), .val (.int p2), .val (.int p3), .val (.int p4), .val (.int p5), .val (.int (1 : Int32)), .val (.int p1), .val (.int r28), .val (.int r29), .val (.int r30), .val (.ref b31), .unset] []))
    refine G.iload P at_57 rfl (pc' := 59) rfl ?_
    refine G.iconst P at_59 (v := (1 : Int32)) rfl (pc' := 60) rfl ?_
    refine G.icmp_le P at_60 (by decide) (pcY := 70) (by decide) (pcN := 63) rfl (fun _ => ?_) (fun c => absurd c (by decide))
    refine G.iload P at_70 rfl (pc' := 72) rfl ?_
    refine G.iconst P at_72 (v := (2 : Int32)) rfl (pc' := 73) rfl ?_
    refine G.icmp_le P at_73 (by decide) (pcY := 83) (by decide) (pcN := 76) rfl (fun _ => ?_) (fun c => absurd c (by decide))
    refine G.iload P at_83 rfl (pc' := 85) rfl ?_
    refine G.iconst P at_85 (v := (3 : Int32)) rfl (pc' := 86) rfl ?_
    refine G.icmp_le P at_86 (by decide) (pcY := 96) (by decide) (pcN := 89) rfl (fun _ => ?_) (fun c => absurd c (by decide))
    refine G.iload P at_96 rfl (pc' := 98) rfl ?_
    refine G.if_le P at_98 (by decide) (pcY := 105) (by decide) (pcN := 101) rfl (fun c => absurd c (by decide)) (fun _ => ?_)
    refine G.iconst P at_101 (v := (1 : Int32)) rfl (pc' := 102) rfl ?_
    refine G.goto P at_102 (by decide) (pc' := 106) (by decide) ?_
    refine G.iload P at_106 rfl (pc' := 108) rfl ?_
    refine G.iload P at_108 rfl (pc' := 110) rfl ?_
    refine G.callS P (wd hw (i := 17) rfl) (wd hw (i := 18) rfl) (wd hw (i := 19) rfl) (wd hw (i := 20) rfl) (by decide) (argsL := [(.int (1 : Int32)), (.int p1), (.int p5)]) (rm4 hw (1 : Int32) p1 p5 h35 P.sz) (by decide) (by decide) (cells' := 2) rfl (slots' := 6) rfl (by decide) (by decide) (lenOf pd_4 rfl) rfl (rest := []) rfl (W := 0) (Nat.le_of_eq rfl) at_110 (pc' := 113) rfl ?_
    rintro T _ _ P ⟨rfl, rfl⟩
    show Goes p e below s n0 room_1.cells room_1.slots (Q0 Z p0 p1 p2 p3 p4 p5 h0) (T.setTop (mkF m 113 #[.val (.int p0), .val (.int p1), .val (.int p2), .val (.int p3), .val (.int p4), .val (.int p5), .val (.int (1 : Int32)), .val (.int p1), .val (.int r28), .val (.int r29), .val (.int r30), .val (.ref b31), .unset] [(.int (f4 (1 : Int32) p1 p5))]))
    generalize hr37 : (f4 (1 : Int32) p1 p5) = r37
    refine G.iload P at_113 rfl (pc' := 115) rfl ?_
    refine G.iconst P at_115 (v := (1 : Int32)) rfl (pc' := 116) rfl ?_
    refine G.icmp_le P at_116 (by decide) (pcY := 123) (by decide) (pcN := 119) rfl (fun _ => ?_) (fun c => absurd c (by decide))
    refine G.iconst P at_123 (v := (0 : Int32)) rfl (pc' := 124) rfl ?_
    refine G.iload P at_124 rfl (pc' := 126) rfl ?_
    refine G.iload P at_126 rfl (pc' := 128) rfl ?_
    refine G.callS P (wd hw (i := 17) rfl) (wd hw (i := 18) rfl) (wd hw (i := 19) rfl) (wd hw (i := 20) rfl) (by decide) (argsL := [(.int (0 : Int32)), (.int r28), (.int p5)]) (rm4 hw (0 : Int32) r28 p5 h35 P.sz) (by decide) (by decide) (cells' := 2) rfl (slots' := 6) rfl (by decide) (by decide) (lenOf pd_4 rfl) rfl (rest := [(.int r37)]) rfl (W := 1) (Nat.le_of_eq rfl) at_128 (pc' := 131) rfl ?_
    rintro T _ _ P ⟨rfl, rfl⟩
    show Goes p e below s n0 room_1.cells room_1.slots (Q0 Z p0 p1 p2 p3 p4 p5 h0) (T.setTop (mkF m 131 #[.val (.int p0), .val (.int p1), .val (.int p2), .val (.int p3), .val (.int p4), .val (.int p5), .val (.int (1 : Int32)), .val (.int p1), .val (.int r28), .val (.int r29), .val (.int r30), .val (.ref b31), .unset] [(.int (f4 (0 : Int32) r28 p5)), (.int r37)]))
    generalize hr38 : (f4 (0 : Int32) r28 p5) = r38
    refine G.iadd P at_131 (pc' := 132) rfl ?_
    refine G.iload P at_132 rfl (pc' := 134) rfl ?_
    refine G.iconst P at_134 (v := (2 : Int32)) rfl (pc' := 135) rfl ?_
    refine G.icmp_le P at_135 (by decide) (pcY := 142) (by decide) (pcN := 138) rfl (fun _ => ?_) (fun c => absurd c (by decide))
    refine G.iconst P at_142 (v := (0 : Int32)) rfl (pc' := 143) rfl ?_
    refine G.iload P at_143 rfl (pc' := 145) rfl ?_
    refine G.iload P at_145 rfl (pc' := 147) rfl ?_
    refine G.callS P (wd hw (i := 17) rfl) (wd hw (i := 18) rfl) (wd hw (i := 19) rfl) (wd hw (i := 20) rfl) (by decide) (argsL := [(.int (0 : Int32)), (.int r29), (.int p5)]) (rm4 hw (0 : Int32) r29 p5 h35 P.sz) (by decide) (by decide) (cells' := 2) rfl (slots' := 6) rfl (by decide) (by decide) (lenOf pd_4 rfl) rfl (rest := [(.int (r37 + r38))]) rfl (W := 1) (Nat.le_of_eq rfl) at_147 (pc' := 150) rfl ?_
    rintro T _ _ P ⟨rfl, rfl⟩
    show Goes p e below s n0 room_1.cells room_1.slots (Q0 Z p0 p1 p2 p3 p4 p5 h0) (T.setTop (mkF m 150 #[.val (.int p0), .val (.int p1), .val (.int p2), .val (.int p3), .val (.int p4), .val (.int p5), .val (.int (1 : Int32)), .val (.int p1), .val (.int r28), .val (.int r29), .val (.int r30), .val (.ref b31), .unset] [(.int (f4 (0 : Int32) r29 p5)), (.int (r37 + r38))]))
    generalize hr39 : (f4 (0 : Int32) r29 p5) = r39
    refine G.iadd P at_150 (pc' := 151) rfl ?_
    refine G.iload P at_151 rfl (pc' := 153) rfl ?_
    refine G.iconst P at_153 (v := (3 : Int32)) rfl (pc' := 154) rfl ?_
    refine G.icmp_le P at_154 (by decide) (pcY := 161) (by decide) (pcN := 157) rfl (fun _ => ?_) (fun c => absurd c (by decide))
    refine G.iconst P at_161 (v := (0 : Int32)) rfl (pc' := 162) rfl ?_
    refine G.iload P at_162 rfl (pc' := 164) rfl ?_
    refine G.iload P at_164 rfl (pc' := 166) rfl ?_
    refine G.callS P (wd hw (i := 17) rfl) (wd hw (i := 18) rfl) (wd hw (i := 19) rfl) (wd hw (i := 20) rfl) (by decide) (argsL := [(.int (0 : Int32)), (.int r30), (.int p5)]) (rm4 hw (0 : Int32) r30 p5 h35 P.sz) (by decide) (by decide) (cells' := 2) rfl (slots' := 6) rfl (by decide) (by decide) (lenOf pd_4 rfl) rfl (rest := [(.int ((r37 + r38) + r39))]) rfl (W := 1) (Nat.le_of_eq rfl) at_166 (pc' := 169) rfl ?_
    rintro T _ _ P ⟨rfl, rfl⟩
    show Goes p e below s n0 room_1.cells room_1.slots (Q0 Z p0 p1 p2 p3 p4 p5 h0) (T.setTop (mkF m 169 #[.val (.int p0), .val (.int p1), .val (.int p2), .val (.int p3), .val (.int p4), .val (.int p5), .val (.int (1 : Int32)), .val (.int p1), .val (.int r28), .val (.int r29), .val (.int r30), .val (.ref b31), .unset] [(.int (f4 (0 : Int32) r30 p5)), (.int ((r37 + r38) + r39))]))
    generalize hr40 : (f4 (0 : Int32) r30 p5) = r40
    refine G.iadd P at_169 (pc' := 170) rfl ?_
    obtain ⟨x41, hx41⟩ : ∃ z : Int32, (((r37 + r38) + r39) + r40) = z := ⟨_, rfl⟩
    refine G.istore P at_170 hx41 (L' := #[.val (.int p0), .val (.int p1), .val (.int p2), .val (.int p3), .val (.int p4), .val (.int p5), .val (.int (1 : Int32)), .val (.int p1), .val (.int r28), .val (.int r29), .val (.int r30), .val (.ref b31), .val (.int x41)]) rfl (pc' := 172) rfl ?_
    refine G.aload P at_172 rfl rfl (pc' := 174) rfl ?_
    refine G.iload P at_174 rfl (pc' := 176) rfl ?_
    refine G.callV P (wd hw (i := 21) rfl) (wd hw (i := 22) rfl) (wd hw (i := 24) rfl) (wd hw (i := 23) rfl) (wd hw (i := 7) rfl) (wd hw (i := 25) rfl) (by decide) O31.1 (argsL := [(.int p5)]) (a := b31) (rm5 hw b31 p5 b34 ((0 : Int32) + (1 : Int32)) (oupd (lst [(0 : Int32), (0 : Int32), (0 : Int32), (0 : Int32)]) 0 p1) 1 h35 O31 Ob34 ne_b31_b34 (own_sz own_sz0 (by decide)) (by decide) P.sz) (by decide) (by decide) (cells' := 2) rfl (slots' := 6) rfl (by decide) (by decide) (lenOf pd_5 rfl) rfl (rest := []) rfl (W := 0) (Nat.le_of_eq rfl) at_176 (pc' := 179) rfl ?_
    rintro T _ _ P ⟨rfl, rfl⟩
    show Goes p e below s n0 room_1.cells room_1.slots (Q0 Z p0 p1 p2 p3 p4 p5 h0) (T.setTop (mkF m 179 #[.val (.int p0), .val (.int p1), .val (.int p2), .val (.int p3), .val (.int p4), .val (.int p5), .val (.int (1 : Int32)), .val (.int p1), .val (.int r28), .val (.int r29), .val (.int r30), .val (.ref b31), .val (.int x41)] [(.int (Int32.ofNat (own_lb (oupd (lst [(0 : Int32), (0 : Int32), (0 : Int32), (0 : Int32)]) 0 p1) p5 0 1)))]))
    refine G.iload P at_179 rfl (pc' := 181) rfl ?_
    have J189_181 : ∀ (z42 : Int32), z42 = (if (Int32.ofNat (own_lb (oupd (lst [(0 : Int32), (0 : Int32), (0 : Int32), (0 : Int32)]) 0 p1) p5 0 1)) = x41 then (1 : Int32) else (0 : Int32)) → Goes p e below s n0 room_1.cells room_1.slots (Q0 Z p0 p1 p2 p3 p4 p5 h0) (T.setTop (mkF m 189 #[.val (.int p0), .val (.int p1), .val (.int p2), .val (.int p3), .val (.int p4), .val (.int p5), .val (.int (1 : Int32)), .val (.int p1), .val (.int r28), .val (.int r29), .val (.int r30), .val (.ref b31), .val (.int x41)] [(.int z42)])) := by
      intro z42 hz42
      have w1 : ¬ r28 < p1 := by rw [← hr28]; exact own_max _ _
      have w2 : ¬ r29 < r28 := by rw [← hr29]; exact own_max _ _
      have w3 : ¬ r30 < r29 := by rw [← hr30]; exact own_max _ _
      have u0 := own_g1 (lst [(0 : Int32), (0 : Int32), (0 : Int32), (0 : Int32)]) p1
      have e1 : (Int32.ofNat (own_lb (oupd (lst [(0 : Int32), (0 : Int32), (0 : Int32), (0 : Int32)]) 0 p1) p5 0 1)) = x41 := by rw [← hx41, ← hr37, ← hr38, ← hr39, ← hr40]; exact own_k1 (oupd (lst [(0 : Int32), (0 : Int32), (0 : Int32), (0 : Int32)]) 0 p1) p1 r28 r29 r30 p5 u0
      exact G.ireturnN P (t := .boolean) rfl (by simp) rfl at_189 (by decide) (by decide) ⟨congrArg (fun z => some (Value.int z)) (by rw [hz42, if_pos e1]; rfl), trivial⟩
    refine G.icmp_ne P at_181 (by decide) (pcY := 188) (by decide) (pcN := 184) rfl (fun c181 => ?_) (fun c181 => ?_)
    · refine G.iconst P at_188 (v := (0 : Int32)) rfl (pc' := 189) rfl ?_
      exact J189_181 _ (by simp only [if_neg c181])
    · refine G.iconst P at_184 (v := (1 : Int32)) rfl (pc' := 185) rfl ?_
      refine G.goto P at_185 (by decide) (pc' := 189) (by decide) ?_
      exact J189_181 _ (by simp only [if_pos c181])
  · subst q
    refine G.iloadN P at_8 rfl (pc' := 9) rfl ?_
    refine G.istore P at_9 rfl (L' := #[.val (.int p0), .val (.int p1), .val (.int p2), .val (.int p3), .val (.int p4), .val (.int p5), .val (.int (2 : Int32)), .val (.int p1), .unset, .unset, .unset, .unset, .unset]) rfl (pc' := 11) rfl ?_
    refine G.iload P at_11 rfl (pc' := 13) rfl ?_
    refine G.iloadN P at_13 rfl (pc' := 14) rfl ?_
    refine G.callS P (wd hw (i := 1) rfl) (wd hw (i := 2) rfl) (wd hw (i := 3) rfl) (wd hw (i := 4) rfl) (by decide) (argsL := [(.int p1), (.int p2)]) (rm1 hw p1 p2 h0 P.sz) (by decide) (by decide) (cells' := 0) rfl (slots' := 0) rfl (by decide) (by decide) (lenOf pd_1 rfl) rfl (rest := []) rfl (W := 0) (Nat.le_of_eq rfl) at_14 (pc' := 17) rfl ?_
    rintro T _ _ P ⟨rfl, rfl⟩
    show Goes p e below s n0 room_1.cells room_1.slots (Q0 Z p0 p1 p2 p3 p4 p5 h0) (T.setTop (mkF m 17 #[.val (.int p0), .val (.int p1), .val (.int p2), .val (.int p3), .val (.int p4), .val (.int p5), .val (.int (2 : Int32)), .val (.int p1), .unset, .unset, .unset, .unset, .unset] [(.int (f1 p1 p2))]))
    generalize hr43 : (f1 p1 p2) = r43
    refine G.istore P at_17 rfl (L' := #[.val (.int p0), .val (.int p1), .val (.int p2), .val (.int p3), .val (.int p4), .val (.int p5), .val (.int (2 : Int32)), .val (.int p1), .val (.int r43), .unset, .unset, .unset, .unset]) rfl (pc' := 19) rfl ?_
    refine G.iload P at_19 rfl (pc' := 21) rfl ?_
    refine G.iloadN P at_21 rfl (pc' := 22) rfl ?_
    refine G.callS P (wd hw (i := 1) rfl) (wd hw (i := 2) rfl) (wd hw (i := 3) rfl) (wd hw (i := 4) rfl) (by decide) (argsL := [(.int r43), (.int p3)]) (rm1 hw r43 p3 h0 P.sz) (by decide) (by decide) (cells' := 0) rfl (slots' := 0) rfl (by decide) (by decide) (lenOf pd_1 rfl) rfl (rest := []) rfl (W := 0) (Nat.le_of_eq rfl) at_22 (pc' := 25) rfl ?_
    rintro T _ _ P ⟨rfl, rfl⟩
    show Goes p e below s n0 room_1.cells room_1.slots (Q0 Z p0 p1 p2 p3 p4 p5 h0) (T.setTop (mkF m 25 #[.val (.int p0), .val (.int p1), .val (.int p2), .val (.int p3), .val (.int p4), .val (.int p5), .val (.int (2 : Int32)), .val (.int p1), .val (.int r43), .unset, .unset, .unset, .unset] [(.int (f1 r43 p3))]))
    generalize hr44 : (f1 r43 p3) = r44
    refine G.istore P at_25 rfl (L' := #[.val (.int p0), .val (.int p1), .val (.int p2), .val (.int p3), .val (.int p4), .val (.int p5), .val (.int (2 : Int32)), .val (.int p1), .val (.int r43), .val (.int r44), .unset, .unset, .unset]) rfl (pc' := 27) rfl ?_
    refine G.iload P at_27 rfl (pc' := 29) rfl ?_
    refine G.iload P at_29 rfl (pc' := 31) rfl ?_
    refine G.callS P (wd hw (i := 1) rfl) (wd hw (i := 2) rfl) (wd hw (i := 3) rfl) (wd hw (i := 4) rfl) (by decide) (argsL := [(.int r44), (.int p4)]) (rm1 hw r44 p4 h0 P.sz) (by decide) (by decide) (cells' := 0) rfl (slots' := 0) rfl (by decide) (by decide) (lenOf pd_1 rfl) rfl (rest := []) rfl (W := 0) (Nat.le_of_eq rfl) at_31 (pc' := 34) rfl ?_
    rintro T _ _ P ⟨rfl, rfl⟩
    show Goes p e below s n0 room_1.cells room_1.slots (Q0 Z p0 p1 p2 p3 p4 p5 h0) (T.setTop (mkF m 34 #[.val (.int p0), .val (.int p1), .val (.int p2), .val (.int p3), .val (.int p4), .val (.int p5), .val (.int (2 : Int32)), .val (.int p1), .val (.int r43), .val (.int r44), .unset, .unset, .unset] [(.int (f1 r44 p4))]))
    generalize hr45 : (f1 r44 p4) = r45
    refine G.istore P at_34 rfl (L' := #[.val (.int p0), .val (.int p1), .val (.int p2), .val (.int p3), .val (.int p4), .val (.int p5), .val (.int (2 : Int32)), .val (.int p1), .val (.int r43), .val (.int r44), .val (.int r45), .unset, .unset]) rfl (pc' := 36) rfl ?_
    refine G.new P (wd hw (i := 5) rfl) (wd hw (i := 6) rfl) (wd hw (i := 7) rfl) at_36 (cells' := 1) rfl (slots' := 2) rfl (by decide) (by decide) (pc' := 39) rfl ?_
    intro T h46 b46 hb46 g_b46 P E46 X46 D46
    have O46 := ObIL.new hw X46 @D46
    refine G.dup P at_39 rfl (pc' := 40) rfl ?_
    refine G.callI P rfl (wd hw (i := 8) rfl) (wd hw (i := 9) rfl) (wd hw (i := 7) rfl) (wd hw (i := 10) rfl) (by decide) (argsL := []) (a := b46) (rm2 hw b46 h46 O46 g_b46 P.sz) (by decide) (by decide) (cells' := 2) rfl (slots' := 6) rfl (by decide) (by decide) (lenOf pd_2 rfl) rfl (rest := [(.ref b46)]) rfl (W := 1) (Nat.le_of_eq rfl) at_40 (pc' := 43) rfl ?_
    have old_b49 := P.sz
    rintro T h47 _ P ⟨b49, rfl, sz_b49, K48, Ob49, O46'⟩
    have g_b49 : n0 ≤ b49 := Nat.le_trans old_b49 sz_b49
    have ne_b46_b49 : b46 ≠ b49 := Nat.ne_of_lt (Nat.lt_of_lt_of_le O46.lt sz_b49)
    replace O46 := O46'
    show Goes p e below s n0 room_1.cells room_1.slots (Q0 Z p0 p1 p2 p3 p4 p5 h0) (T.setTop (mkF m 43 #[.val (.int p0), .val (.int p1), .val (.int p2), .val (.int p3), .val (.int p4), .val (.int p5), .val (.int (2 : Int32)), .val (.int p1), .val (.int r43), .val (.int r44), .val (.int r45), .unset, .unset] [(.ref b46)]))
    refine G.astore P at_43 rfl (L' := #[.val (.int p0), .val (.int p1), .val (.int p2), .val (.int p3), .val (.int p4), .val (.int p5), .val (.int (2 : Int32)), .val (.int p1), .val (.int r43), .val (.int r44), .val (.int r45), .val (.ref b46), .unset]) rfl (pc' := 45) rfl ?_
    refine G.iload P at_45 rfl (pc' := 47) rfl ?_
    refine G.if_le P at_47 (by decide) (pcY := 57) (by decide) (pcN := 50) rfl (fun c => absurd c (by decide)) (fun _ => ?_)
    refine G.aload P at_50 rfl rfl (pc' := 52) rfl ?_
    refine G.iload P at_52 rfl (pc' := 54) rfl ?_
    refine G.callV P (wd hw (i := 28) rfl) (wd hw (i := 29) rfl) (wd hw (i := 31) rfl) (wd hw (i := 30) rfl) (wd hw (i := 7) rfl) (wd hw (i := 32) rfl) (by decide) O46.1 (argsL := [(.int p1)]) (a := b46) (rm6 hw b46 p1 b49 (0 : Int32) (lst [(0 : Int32), (0 : Int32), (0 : Int32), (0 : Int32)]) 0 h47 O46 Ob49 ne_b46_b49 g_b46 g_b49 own_sz0 (by decide) P.sz) (by decide) (by decide) (cells' := 2) rfl (slots' := 6) rfl (by decide) (by decide) (lenOf pd_6 rfl) rfl (rest := []) rfl (W := 0) (Nat.le_of_eq rfl) at_54 (pc' := 57) rfl ?_
    clear O46
    clear Ob49
    rintro T h50 _ P ⟨rfl, K51, O46, Ob49⟩
    show Goes p e below s n0 room_1.cells room_1.slots (Q0 Z p0 p1 p2 p3 p4 p5 h0) (T.setTop (mkF m 57 #[.val (.int p0), .val (.int p1), .val (.int p2), .val (.int p3), .val (.int p4), .val (.int p5), .val (.int (2 : Int32)), .val (.int p1), .val (.int r43), .val (.int r44), .val (.int r45), .val (.ref b46), .unset] []))
    refine G.iload P at_57 rfl (pc' := 59) rfl ?_
    refine G.iconst P at_59 (v := (1 : Int32)) rfl (pc' := 60) rfl ?_
    refine G.icmp_le P at_60 (by decide) (pcY := 70) (by decide) (pcN := 63) rfl (fun c => absurd c (by decide)) (fun _ => ?_)
    refine G.aload P at_63 rfl rfl (pc' := 65) rfl ?_
    refine G.iload P at_65 rfl (pc' := 67) rfl ?_
    refine G.callV P (wd hw (i := 28) rfl) (wd hw (i := 29) rfl) (wd hw (i := 31) rfl) (wd hw (i := 30) rfl) (wd hw (i := 7) rfl) (wd hw (i := 32) rfl) (by decide) O46.1 (argsL := [(.int r43)]) (a := b46) (rm6 hw b46 r43 b49 ((0 : Int32) + (1 : Int32)) (oupd (lst [(0 : Int32), (0 : Int32), (0 : Int32), (0 : Int32)]) 0 p1) 1 h50 O46 Ob49 ne_b46_b49 g_b46 g_b49 (own_sz own_sz0 (by decide)) (by decide) P.sz) (by decide) (by decide) (cells' := 2) rfl (slots' := 6) rfl (by decide) (by decide) (lenOf pd_6 rfl) rfl (rest := []) rfl (W := 0) (Nat.le_of_eq rfl) at_67 (pc' := 70) rfl ?_
    clear O46
    clear Ob49
    rintro T h52 _ P ⟨rfl, K53, O46, Ob49⟩
    show Goes p e below s n0 room_1.cells room_1.slots (Q0 Z p0 p1 p2 p3 p4 p5 h0) (T.setTop (mkF m 70 #[.val (.int p0), .val (.int p1), .val (.int p2), .val (.int p3), .val (.int p4), .val (.int p5), .val (.int (2 : Int32)), .val (.int p1), .val (.int r43), .val (.int r44), .val (.int r45), .val (.ref b46), .unset] []))
    refine G.iload P at_70 rfl (pc' := 72) rfl ?_
    refine G.iconst P at_72 (v := (2 : Int32)) rfl (pc' := 73) rfl ?_
    refine G.icmp_le P at_73 (by decide) (pcY := 83) (by decide) (pcN := 76) rfl (fun _ => ?_) (fun c => absurd c (by decide))
    refine G.iload P at_83 rfl (pc' := 85) rfl ?_
    refine G.iconst P at_85 (v := (3 : Int32)) rfl (pc' := 86) rfl ?_
    refine G.icmp_le P at_86 (by decide) (pcY := 96) (by decide) (pcN := 89) rfl (fun _ => ?_) (fun c => absurd c (by decide))
    refine G.iload P at_96 rfl (pc' := 98) rfl ?_
    refine G.if_le P at_98 (by decide) (pcY := 105) (by decide) (pcN := 101) rfl (fun c => absurd c (by decide)) (fun _ => ?_)
    refine G.iconst P at_101 (v := (1 : Int32)) rfl (pc' := 102) rfl ?_
    refine G.goto P at_102 (by decide) (pc' := 106) (by decide) ?_
    refine G.iload P at_106 rfl (pc' := 108) rfl ?_
    refine G.iload P at_108 rfl (pc' := 110) rfl ?_
    refine G.callS P (wd hw (i := 17) rfl) (wd hw (i := 18) rfl) (wd hw (i := 19) rfl) (wd hw (i := 20) rfl) (by decide) (argsL := [(.int (1 : Int32)), (.int p1), (.int p5)]) (rm4 hw (1 : Int32) p1 p5 h52 P.sz) (by decide) (by decide) (cells' := 2) rfl (slots' := 6) rfl (by decide) (by decide) (lenOf pd_4 rfl) rfl (rest := []) rfl (W := 0) (Nat.le_of_eq rfl) at_110 (pc' := 113) rfl ?_
    rintro T _ _ P ⟨rfl, rfl⟩
    show Goes p e below s n0 room_1.cells room_1.slots (Q0 Z p0 p1 p2 p3 p4 p5 h0) (T.setTop (mkF m 113 #[.val (.int p0), .val (.int p1), .val (.int p2), .val (.int p3), .val (.int p4), .val (.int p5), .val (.int (2 : Int32)), .val (.int p1), .val (.int r43), .val (.int r44), .val (.int r45), .val (.ref b46), .unset] [(.int (f4 (1 : Int32) p1 p5))]))
    generalize hr54 : (f4 (1 : Int32) p1 p5) = r54
    refine G.iload P at_113 rfl (pc' := 115) rfl ?_
    refine G.iconst P at_115 (v := (1 : Int32)) rfl (pc' := 116) rfl ?_
    refine G.icmp_le P at_116 (by decide) (pcY := 123) (by decide) (pcN := 119) rfl (fun c => absurd c (by decide)) (fun _ => ?_)
    refine G.iconst P at_119 (v := (1 : Int32)) rfl (pc' := 120) rfl ?_
    refine G.goto P at_120 (by decide) (pc' := 124) (by decide) ?_
    refine G.iload P at_124 rfl (pc' := 126) rfl ?_
    refine G.iload P at_126 rfl (pc' := 128) rfl ?_
    refine G.callS P (wd hw (i := 17) rfl) (wd hw (i := 18) rfl) (wd hw (i := 19) rfl) (wd hw (i := 20) rfl) (by decide) (argsL := [(.int (1 : Int32)), (.int r43), (.int p5)]) (rm4 hw (1 : Int32) r43 p5 h52 P.sz) (by decide) (by decide) (cells' := 2) rfl (slots' := 6) rfl (by decide) (by decide) (lenOf pd_4 rfl) rfl (rest := [(.int r54)]) rfl (W := 1) (Nat.le_of_eq rfl) at_128 (pc' := 131) rfl ?_
    rintro T _ _ P ⟨rfl, rfl⟩
    show Goes p e below s n0 room_1.cells room_1.slots (Q0 Z p0 p1 p2 p3 p4 p5 h0) (T.setTop (mkF m 131 #[.val (.int p0), .val (.int p1), .val (.int p2), .val (.int p3), .val (.int p4), .val (.int p5), .val (.int (2 : Int32)), .val (.int p1), .val (.int r43), .val (.int r44), .val (.int r45), .val (.ref b46), .unset] [(.int (f4 (1 : Int32) r43 p5)), (.int r54)]))
    generalize hr55 : (f4 (1 : Int32) r43 p5) = r55
    refine G.iadd P at_131 (pc' := 132) rfl ?_
    refine G.iload P at_132 rfl (pc' := 134) rfl ?_
    refine G.iconst P at_134 (v := (2 : Int32)) rfl (pc' := 135) rfl ?_
    refine G.icmp_le P at_135 (by decide) (pcY := 142) (by decide) (pcN := 138) rfl (fun _ => ?_) (fun c => absurd c (by decide))
    refine G.iconst P at_142 (v := (0 : Int32)) rfl (pc' := 143) rfl ?_
    refine G.iload P at_143 rfl (pc' := 145) rfl ?_
    refine G.iload P at_145 rfl (pc' := 147) rfl ?_
    refine G.callS P (wd hw (i := 17) rfl) (wd hw (i := 18) rfl) (wd hw (i := 19) rfl) (wd hw (i := 20) rfl) (by decide) (argsL := [(.int (0 : Int32)), (.int r44), (.int p5)]) (rm4 hw (0 : Int32) r44 p5 h52 P.sz) (by decide) (by decide) (cells' := 2) rfl (slots' := 6) rfl (by decide) (by decide) (lenOf pd_4 rfl) rfl (rest := [(.int (r54 + r55))]) rfl (W := 1) (Nat.le_of_eq rfl) at_147 (pc' := 150) rfl ?_
    rintro T _ _ P ⟨rfl, rfl⟩
    show Goes p e below s n0 room_1.cells room_1.slots (Q0 Z p0 p1 p2 p3 p4 p5 h0) (T.setTop (mkF m 150 #[.val (.int p0), .val (.int p1), .val (.int p2), .val (.int p3), .val (.int p4), .val (.int p5), .val (.int (2 : Int32)), .val (.int p1), .val (.int r43), .val (.int r44), .val (.int r45), .val (.ref b46), .unset] [(.int (f4 (0 : Int32) r44 p5)), (.int (r54 + r55))]))
    generalize hr56 : (f4 (0 : Int32) r44 p5) = r56
    refine G.iadd P at_150 (pc' := 151) rfl ?_
    refine G.iload P at_151 rfl (pc' := 153) rfl ?_
    refine G.iconst P at_153 (v := (3 : Int32)) rfl (pc' := 154) rfl ?_
    refine G.icmp_le P at_154 (by decide) (pcY := 161) (by decide) (pcN := 157) rfl (fun _ => ?_) (fun c => absurd c (by decide))
    refine G.iconst P at_161 (v := (0 : Int32)) rfl (pc' := 162) rfl ?_
    refine G.iload P at_162 rfl (pc' := 164) rfl ?_
    refine G.iload P at_164 rfl (pc' := 166) rfl ?_
    refine G.callS P (wd hw (i := 17) rfl) (wd hw (i := 18) rfl) (wd hw (i := 19) rfl) (wd hw (i := 20) rfl) (by decide) (argsL := [(.int (0 : Int32)), (.int r45), (.int p5)]) (rm4 hw (0 : Int32) r45 p5 h52 P.sz) (by decide) (by decide) (cells' := 2) rfl (slots' := 6) rfl (by decide) (by decide) (lenOf pd_4 rfl) rfl (rest := [(.int ((r54 + r55) + r56))]) rfl (W := 1) (Nat.le_of_eq rfl) at_166 (pc' := 169) rfl ?_
    rintro T _ _ P ⟨rfl, rfl⟩
    show Goes p e below s n0 room_1.cells room_1.slots (Q0 Z p0 p1 p2 p3 p4 p5 h0) (T.setTop (mkF m 169 #[.val (.int p0), .val (.int p1), .val (.int p2), .val (.int p3), .val (.int p4), .val (.int p5), .val (.int (2 : Int32)), .val (.int p1), .val (.int r43), .val (.int r44), .val (.int r45), .val (.ref b46), .unset] [(.int (f4 (0 : Int32) r45 p5)), (.int ((r54 + r55) + r56))]))
    generalize hr57 : (f4 (0 : Int32) r45 p5) = r57
    refine G.iadd P at_169 (pc' := 170) rfl ?_
    obtain ⟨x58, hx58⟩ : ∃ z : Int32, (((r54 + r55) + r56) + r57) = z := ⟨_, rfl⟩
    refine G.istore P at_170 hx58 (L' := #[.val (.int p0), .val (.int p1), .val (.int p2), .val (.int p3), .val (.int p4), .val (.int p5), .val (.int (2 : Int32)), .val (.int p1), .val (.int r43), .val (.int r44), .val (.int r45), .val (.ref b46), .val (.int x58)]) rfl (pc' := 172) rfl ?_
    refine G.aload P at_172 rfl rfl (pc' := 174) rfl ?_
    refine G.iload P at_174 rfl (pc' := 176) rfl ?_
    refine G.callV P (wd hw (i := 21) rfl) (wd hw (i := 22) rfl) (wd hw (i := 24) rfl) (wd hw (i := 23) rfl) (wd hw (i := 7) rfl) (wd hw (i := 25) rfl) (by decide) O46.1 (argsL := [(.int p5)]) (a := b46) (rm5 hw b46 p5 b49 (((0 : Int32) + (1 : Int32)) + (1 : Int32)) (oupd (oupd (lst [(0 : Int32), (0 : Int32), (0 : Int32), (0 : Int32)]) 0 p1) 1 r43) 2 h52 O46 Ob49 ne_b46_b49 (own_sz (own_sz own_sz0 (by decide)) (by decide)) (by decide) P.sz) (by decide) (by decide) (cells' := 2) rfl (slots' := 6) rfl (by decide) (by decide) (lenOf pd_5 rfl) rfl (rest := []) rfl (W := 0) (Nat.le_of_eq rfl) at_176 (pc' := 179) rfl ?_
    rintro T _ _ P ⟨rfl, rfl⟩
    show Goes p e below s n0 room_1.cells room_1.slots (Q0 Z p0 p1 p2 p3 p4 p5 h0) (T.setTop (mkF m 179 #[.val (.int p0), .val (.int p1), .val (.int p2), .val (.int p3), .val (.int p4), .val (.int p5), .val (.int (2 : Int32)), .val (.int p1), .val (.int r43), .val (.int r44), .val (.int r45), .val (.ref b46), .val (.int x58)] [(.int (Int32.ofNat (own_lb (oupd (oupd (lst [(0 : Int32), (0 : Int32), (0 : Int32), (0 : Int32)]) 0 p1) 1 r43) p5 0 2)))]))
    refine G.iload P at_179 rfl (pc' := 181) rfl ?_
    have J189_181 : ∀ (z59 : Int32), z59 = (if (Int32.ofNat (own_lb (oupd (oupd (lst [(0 : Int32), (0 : Int32), (0 : Int32), (0 : Int32)]) 0 p1) 1 r43) p5 0 2)) = x58 then (1 : Int32) else (0 : Int32)) → Goes p e below s n0 room_1.cells room_1.slots (Q0 Z p0 p1 p2 p3 p4 p5 h0) (T.setTop (mkF m 189 #[.val (.int p0), .val (.int p1), .val (.int p2), .val (.int p3), .val (.int p4), .val (.int p5), .val (.int (2 : Int32)), .val (.int p1), .val (.int r43), .val (.int r44), .val (.int r45), .val (.ref b46), .val (.int x58)] [(.int z59)])) := by
      intro z59 hz59
      have w1 : ¬ r43 < p1 := by rw [← hr43]; exact own_max _ _
      have w2 : ¬ r44 < r43 := by rw [← hr44]; exact own_max _ _
      have w3 : ¬ r45 < r44 := by rw [← hr45]; exact own_max _ _
      obtain ⟨u0, u1⟩ := own_g2 (lst [(0 : Int32), (0 : Int32), (0 : Int32), (0 : Int32)]) p1 r43
      have e1 : (Int32.ofNat (own_lb (oupd (oupd (lst [(0 : Int32), (0 : Int32), (0 : Int32), (0 : Int32)]) 0 p1) 1 r43) p5 0 2)) = x58 := by rw [← hx58, ← hr54, ← hr55, ← hr56, ← hr57]; exact own_k2 (oupd (oupd (lst [(0 : Int32), (0 : Int32), (0 : Int32), (0 : Int32)]) 0 p1) 1 r43) p1 r43 r44 r45 p5 u0 u1 w1
      exact G.ireturnN P (t := .boolean) rfl (by simp) rfl at_189 (by decide) (by decide) ⟨congrArg (fun z => some (Value.int z)) (by rw [hz59, if_pos e1]; rfl), trivial⟩
    refine G.icmp_ne P at_181 (by decide) (pcY := 188) (by decide) (pcN := 184) rfl (fun c181 => ?_) (fun c181 => ?_)
    · refine G.iconst P at_188 (v := (0 : Int32)) rfl (pc' := 189) rfl ?_
      exact J189_181 _ (by simp only [if_neg c181])
    · refine G.iconst P at_184 (v := (1 : Int32)) rfl (pc' := 185) rfl ?_
      refine G.goto P at_185 (by decide) (pc' := 189) (by decide) ?_
      exact J189_181 _ (by simp only [if_pos c181])
  · subst q
    refine G.iloadN P at_8 rfl (pc' := 9) rfl ?_
    refine G.istore P at_9 rfl (L' := #[.val (.int p0), .val (.int p1), .val (.int p2), .val (.int p3), .val (.int p4), .val (.int p5), .val (.int (3 : Int32)), .val (.int p1), .unset, .unset, .unset, .unset, .unset]) rfl (pc' := 11) rfl ?_
    refine G.iload P at_11 rfl (pc' := 13) rfl ?_
    refine G.iloadN P at_13 rfl (pc' := 14) rfl ?_
    refine G.callS P (wd hw (i := 1) rfl) (wd hw (i := 2) rfl) (wd hw (i := 3) rfl) (wd hw (i := 4) rfl) (by decide) (argsL := [(.int p1), (.int p2)]) (rm1 hw p1 p2 h0 P.sz) (by decide) (by decide) (cells' := 0) rfl (slots' := 0) rfl (by decide) (by decide) (lenOf pd_1 rfl) rfl (rest := []) rfl (W := 0) (Nat.le_of_eq rfl) at_14 (pc' := 17) rfl ?_
    rintro T _ _ P ⟨rfl, rfl⟩
    show Goes p e below s n0 room_1.cells room_1.slots (Q0 Z p0 p1 p2 p3 p4 p5 h0) (T.setTop (mkF m 17 #[.val (.int p0), .val (.int p1), .val (.int p2), .val (.int p3), .val (.int p4), .val (.int p5), .val (.int (3 : Int32)), .val (.int p1), .unset, .unset, .unset, .unset, .unset] [(.int (f1 p1 p2))]))
    generalize hr60 : (f1 p1 p2) = r60
    refine G.istore P at_17 rfl (L' := #[.val (.int p0), .val (.int p1), .val (.int p2), .val (.int p3), .val (.int p4), .val (.int p5), .val (.int (3 : Int32)), .val (.int p1), .val (.int r60), .unset, .unset, .unset, .unset]) rfl (pc' := 19) rfl ?_
    refine G.iload P at_19 rfl (pc' := 21) rfl ?_
    refine G.iloadN P at_21 rfl (pc' := 22) rfl ?_
    refine G.callS P (wd hw (i := 1) rfl) (wd hw (i := 2) rfl) (wd hw (i := 3) rfl) (wd hw (i := 4) rfl) (by decide) (argsL := [(.int r60), (.int p3)]) (rm1 hw r60 p3 h0 P.sz) (by decide) (by decide) (cells' := 0) rfl (slots' := 0) rfl (by decide) (by decide) (lenOf pd_1 rfl) rfl (rest := []) rfl (W := 0) (Nat.le_of_eq rfl) at_22 (pc' := 25) rfl ?_
    rintro T _ _ P ⟨rfl, rfl⟩
    show Goes p e below s n0 room_1.cells room_1.slots (Q0 Z p0 p1 p2 p3 p4 p5 h0) (T.setTop (mkF m 25 #[.val (.int p0), .val (.int p1), .val (.int p2), .val (.int p3), .val (.int p4), .val (.int p5), .val (.int (3 : Int32)), .val (.int p1), .val (.int r60), .unset, .unset, .unset, .unset] [(.int (f1 r60 p3))]))
    generalize hr61 : (f1 r60 p3) = r61
    refine G.istore P at_25 rfl (L' := #[.val (.int p0), .val (.int p1), .val (.int p2), .val (.int p3), .val (.int p4), .val (.int p5), .val (.int (3 : Int32)), .val (.int p1), .val (.int r60), .val (.int r61), .unset, .unset, .unset]) rfl (pc' := 27) rfl ?_
    refine G.iload P at_27 rfl (pc' := 29) rfl ?_
    refine G.iload P at_29 rfl (pc' := 31) rfl ?_
    refine G.callS P (wd hw (i := 1) rfl) (wd hw (i := 2) rfl) (wd hw (i := 3) rfl) (wd hw (i := 4) rfl) (by decide) (argsL := [(.int r61), (.int p4)]) (rm1 hw r61 p4 h0 P.sz) (by decide) (by decide) (cells' := 0) rfl (slots' := 0) rfl (by decide) (by decide) (lenOf pd_1 rfl) rfl (rest := []) rfl (W := 0) (Nat.le_of_eq rfl) at_31 (pc' := 34) rfl ?_
    rintro T _ _ P ⟨rfl, rfl⟩
    show Goes p e below s n0 room_1.cells room_1.slots (Q0 Z p0 p1 p2 p3 p4 p5 h0) (T.setTop (mkF m 34 #[.val (.int p0), .val (.int p1), .val (.int p2), .val (.int p3), .val (.int p4), .val (.int p5), .val (.int (3 : Int32)), .val (.int p1), .val (.int r60), .val (.int r61), .unset, .unset, .unset] [(.int (f1 r61 p4))]))
    generalize hr62 : (f1 r61 p4) = r62
    refine G.istore P at_34 rfl (L' := #[.val (.int p0), .val (.int p1), .val (.int p2), .val (.int p3), .val (.int p4), .val (.int p5), .val (.int (3 : Int32)), .val (.int p1), .val (.int r60), .val (.int r61), .val (.int r62), .unset, .unset]) rfl (pc' := 36) rfl ?_
    refine G.new P (wd hw (i := 5) rfl) (wd hw (i := 6) rfl) (wd hw (i := 7) rfl) at_36 (cells' := 1) rfl (slots' := 2) rfl (by decide) (by decide) (pc' := 39) rfl ?_
    intro T h63 b63 hb63 g_b63 P E63 X63 D63
    have O63 := ObIL.new hw X63 @D63
    refine G.dup P at_39 rfl (pc' := 40) rfl ?_
    refine G.callI P rfl (wd hw (i := 8) rfl) (wd hw (i := 9) rfl) (wd hw (i := 7) rfl) (wd hw (i := 10) rfl) (by decide) (argsL := []) (a := b63) (rm2 hw b63 h63 O63 g_b63 P.sz) (by decide) (by decide) (cells' := 2) rfl (slots' := 6) rfl (by decide) (by decide) (lenOf pd_2 rfl) rfl (rest := [(.ref b63)]) rfl (W := 1) (Nat.le_of_eq rfl) at_40 (pc' := 43) rfl ?_
    have old_b66 := P.sz
    rintro T h64 _ P ⟨b66, rfl, sz_b66, K65, Ob66, O63'⟩
    have g_b66 : n0 ≤ b66 := Nat.le_trans old_b66 sz_b66
    have ne_b63_b66 : b63 ≠ b66 := Nat.ne_of_lt (Nat.lt_of_lt_of_le O63.lt sz_b66)
    replace O63 := O63'
    show Goes p e below s n0 room_1.cells room_1.slots (Q0 Z p0 p1 p2 p3 p4 p5 h0) (T.setTop (mkF m 43 #[.val (.int p0), .val (.int p1), .val (.int p2), .val (.int p3), .val (.int p4), .val (.int p5), .val (.int (3 : Int32)), .val (.int p1), .val (.int r60), .val (.int r61), .val (.int r62), .unset, .unset] [(.ref b63)]))
    refine G.astore P at_43 rfl (L' := #[.val (.int p0), .val (.int p1), .val (.int p2), .val (.int p3), .val (.int p4), .val (.int p5), .val (.int (3 : Int32)), .val (.int p1), .val (.int r60), .val (.int r61), .val (.int r62), .val (.ref b63), .unset]) rfl (pc' := 45) rfl ?_
    refine G.iload P at_45 rfl (pc' := 47) rfl ?_
    refine G.if_le P at_47 (by decide) (pcY := 57) (by decide) (pcN := 50) rfl (fun c => absurd c (by decide)) (fun _ => ?_)
    refine G.aload P at_50 rfl rfl (pc' := 52) rfl ?_
    refine G.iload P at_52 rfl (pc' := 54) rfl ?_
    refine G.callV P (wd hw (i := 28) rfl) (wd hw (i := 29) rfl) (wd hw (i := 31) rfl) (wd hw (i := 30) rfl) (wd hw (i := 7) rfl) (wd hw (i := 32) rfl) (by decide) O63.1 (argsL := [(.int p1)]) (a := b63) (rm6 hw b63 p1 b66 (0 : Int32) (lst [(0 : Int32), (0 : Int32), (0 : Int32), (0 : Int32)]) 0 h64 O63 Ob66 ne_b63_b66 g_b63 g_b66 own_sz0 (by decide) P.sz) (by decide) (by decide) (cells' := 2) rfl (slots' := 6) rfl (by decide) (by decide) (lenOf pd_6 rfl) rfl (rest := []) rfl (W := 0) (Nat.le_of_eq rfl) at_54 (pc' := 57) rfl ?_
    clear O63
    clear Ob66
    rintro T h67 _ P ⟨rfl, K68, O63, Ob66⟩
    show Goes p e below s n0 room_1.cells room_1.slots (Q0 Z p0 p1 p2 p3 p4 p5 h0) (T.setTop (mkF m 57 #[.val (.int p0), .val (.int p1), .val (.int p2), .val (.int p3), .val (.int p4), .val (.int p5), .val (.int (3 : Int32)), .val (.int p1), .val (.int r60), .val (.int r61), .val (.int r62), .val (.ref b63), .unset] []))
    refine G.iload P at_57 rfl (pc' := 59) rfl ?_
    refine G.iconst P at_59 (v := (1 : Int32)) rfl (pc' := 60) rfl ?_
    refine G.icmp_le P at_60 (by decide) (pcY := 70) (by decide) (pcN := 63) rfl (fun c => absurd c (by decide)) (fun _ => ?_)
    refine G.aload P at_63 rfl rfl (pc' := 65) rfl ?_
    refine G.iload P at_65 rfl (pc' := 67) rfl ?_
    refine G.callV P (wd hw (i := 28) rfl) (wd hw (i := 29) rfl) (wd hw (i := 31) rfl) (wd hw (i := 30) rfl) (wd hw (i := 7) rfl) (wd hw (i := 32) rfl) (by decide) O63.1 (argsL := [(.int r60)]) (a := b63) (rm6 hw b63 r60 b66 ((0 : Int32) + (1 : Int32)) (oupd (lst [(0 : Int32), (0 : Int32), (0 : Int32), (0 : Int32)]) 0 p1) 1 h67 O63 Ob66 ne_b63_b66 g_b63 g_b66 (own_sz own_sz0 (by decide)) (by decide) P.sz) (by decide) (by decide) (cells' := 2) rfl (slots' := 6) rfl (by decide) (by decide) (lenOf pd_6 rfl) rfl (rest := []) rfl (W := 0) (Nat.le_of_eq rfl) at_67 (pc' := 70) rfl ?_
    clear O63
    clear Ob66
    rintro T h69 _ P ⟨rfl, K70, O63, Ob66⟩
    show Goes p e below s n0 room_1.cells room_1.slots (Q0 Z p0 p1 p2 p3 p4 p5 h0) (T.setTop (mkF m 70 #[.val (.int p0), .val (.int p1), .val (.int p2), .val (.int p3), .val (.int p4), .val (.int p5), .val (.int (3 : Int32)), .val (.int p1), .val (.int r60), .val (.int r61), .val (.int r62), .val (.ref b63), .unset] []))
    refine G.iload P at_70 rfl (pc' := 72) rfl ?_
    refine G.iconst P at_72 (v := (2 : Int32)) rfl (pc' := 73) rfl ?_
    refine G.icmp_le P at_73 (by decide) (pcY := 83) (by decide) (pcN := 76) rfl (fun c => absurd c (by decide)) (fun _ => ?_)
    refine G.aload P at_76 rfl rfl (pc' := 78) rfl ?_
    refine G.iload P at_78 rfl (pc' := 80) rfl ?_
    refine G.callV P (wd hw (i := 28) rfl) (wd hw (i := 29) rfl) (wd hw (i := 31) rfl) (wd hw (i := 30) rfl) (wd hw (i := 7) rfl) (wd hw (i := 32) rfl) (by decide) O63.1 (argsL := [(.int r61)]) (a := b63) (rm6 hw b63 r61 b66 (((0 : Int32) + (1 : Int32)) + (1 : Int32)) (oupd (oupd (lst [(0 : Int32), (0 : Int32), (0 : Int32), (0 : Int32)]) 0 p1) 1 r60) 2 h69 O63 Ob66 ne_b63_b66 g_b63 g_b66 (own_sz (own_sz own_sz0 (by decide)) (by decide)) (by decide) P.sz) (by decide) (by decide) (cells' := 2) rfl (slots' := 6) rfl (by decide) (by decide) (lenOf pd_6 rfl) rfl (rest := []) rfl (W := 0) (Nat.le_of_eq rfl) at_80 (pc' := 83) rfl ?_
    clear O63
    clear Ob66
    rintro T h71 _ P ⟨rfl, K72, O63, Ob66⟩
    show Goes p e below s n0 room_1.cells room_1.slots (Q0 Z p0 p1 p2 p3 p4 p5 h0) (T.setTop (mkF m 83 #[.val (.int p0), .val (.int p1), .val (.int p2), .val (.int p3), .val (.int p4), .val (.int p5), .val (.int (3 : Int32)), .val (.int p1), .val (.int r60), .val (.int r61), .val (.int r62), .val (.ref b63), .unset] []))
    refine G.iload P at_83 rfl (pc' := 85) rfl ?_
    refine G.iconst P at_85 (v := (3 : Int32)) rfl (pc' := 86) rfl ?_
    refine G.icmp_le P at_86 (by decide) (pcY := 96) (by decide) (pcN := 89) rfl (fun _ => ?_) (fun c => absurd c (by decide))
    refine G.iload P at_96 rfl (pc' := 98) rfl ?_
    refine G.if_le P at_98 (by decide) (pcY := 105) (by decide) (pcN := 101) rfl (fun c => absurd c (by decide)) (fun _ => ?_)
    refine G.iconst P at_101 (v := (1 : Int32)) rfl (pc' := 102) rfl ?_
    refine G.goto P at_102 (by decide) (pc' := 106) (by decide) ?_
    refine G.iload P at_106 rfl (pc' := 108) rfl ?_
    refine G.iload P at_108 rfl (pc' := 110) rfl ?_
    refine G.callS P (wd hw (i := 17) rfl) (wd hw (i := 18) rfl) (wd hw (i := 19) rfl) (wd hw (i := 20) rfl) (by decide) (argsL := [(.int (1 : Int32)), (.int p1), (.int p5)]) (rm4 hw (1 : Int32) p1 p5 h71 P.sz) (by decide) (by decide) (cells' := 2) rfl (slots' := 6) rfl (by decide) (by decide) (lenOf pd_4 rfl) rfl (rest := []) rfl (W := 0) (Nat.le_of_eq rfl) at_110 (pc' := 113) rfl ?_
    rintro T _ _ P ⟨rfl, rfl⟩
    show Goes p e below s n0 room_1.cells room_1.slots (Q0 Z p0 p1 p2 p3 p4 p5 h0) (T.setTop (mkF m 113 #[.val (.int p0), .val (.int p1), .val (.int p2), .val (.int p3), .val (.int p4), .val (.int p5), .val (.int (3 : Int32)), .val (.int p1), .val (.int r60), .val (.int r61), .val (.int r62), .val (.ref b63), .unset] [(.int (f4 (1 : Int32) p1 p5))]))
    generalize hr73 : (f4 (1 : Int32) p1 p5) = r73
    refine G.iload P at_113 rfl (pc' := 115) rfl ?_
    refine G.iconst P at_115 (v := (1 : Int32)) rfl (pc' := 116) rfl ?_
    refine G.icmp_le P at_116 (by decide) (pcY := 123) (by decide) (pcN := 119) rfl (fun c => absurd c (by decide)) (fun _ => ?_)
    refine G.iconst P at_119 (v := (1 : Int32)) rfl (pc' := 120) rfl ?_
    refine G.goto P at_120 (by decide) (pc' := 124) (by decide) ?_
    refine G.iload P at_124 rfl (pc' := 126) rfl ?_
    refine G.iload P at_126 rfl (pc' := 128) rfl ?_
    refine G.callS P (wd hw (i := 17) rfl) (wd hw (i := 18) rfl) (wd hw (i := 19) rfl) (wd hw (i := 20) rfl) (by decide) (argsL := [(.int (1 : Int32)), (.int r60), (.int p5)]) (rm4 hw (1 : Int32) r60 p5 h71 P.sz) (by decide) (by decide) (cells' := 2) rfl (slots' := 6) rfl (by decide) (by decide) (lenOf pd_4 rfl) rfl (rest := [(.int r73)]) rfl (W := 1) (Nat.le_of_eq rfl) at_128 (pc' := 131) rfl ?_
    rintro T _ _ P ⟨rfl, rfl⟩
    show Goes p e below s n0 room_1.cells room_1.slots (Q0 Z p0 p1 p2 p3 p4 p5 h0) (T.setTop (mkF m 131 #[.val (.int p0), .val (.int p1), .val (.int p2), .val (.int p3), .val (.int p4), .val (.int p5), .val (.int (3 : Int32)), .val (.int p1), .val (.int r60), .val (.int r61), .val (.int r62), .val (.ref b63), .unset] [(.int (f4 (1 : Int32) r60 p5)), (.int r73)]))
    generalize hr74 : (f4 (1 : Int32) r60 p5) = r74
    refine G.iadd P at_131 (pc' := 132) rfl ?_
    refine G.iload P at_132 rfl (pc' := 134) rfl ?_
    refine G.iconst P at_134 (v := (2 : Int32)) rfl (pc' := 135) rfl ?_
    refine G.icmp_le P at_135 (by decide) (pcY := 142) (by decide) (pcN := 138) rfl (fun c => absurd c (by decide)) (fun _ => ?_)
    refine G.iconst P at_138 (v := (1 : Int32)) rfl (pc' := 139) rfl ?_
    refine G.goto P at_139 (by decide) (pc' := 143) (by decide) ?_
    refine G.iload P at_143 rfl (pc' := 145) rfl ?_
    refine G.iload P at_145 rfl (pc' := 147) rfl ?_
    refine G.callS P (wd hw (i := 17) rfl) (wd hw (i := 18) rfl) (wd hw (i := 19) rfl) (wd hw (i := 20) rfl) (by decide) (argsL := [(.int (1 : Int32)), (.int r61), (.int p5)]) (rm4 hw (1 : Int32) r61 p5 h71 P.sz) (by decide) (by decide) (cells' := 2) rfl (slots' := 6) rfl (by decide) (by decide) (lenOf pd_4 rfl) rfl (rest := [(.int (r73 + r74))]) rfl (W := 1) (Nat.le_of_eq rfl) at_147 (pc' := 150) rfl ?_
    rintro T _ _ P ⟨rfl, rfl⟩
    show Goes p e below s n0 room_1.cells room_1.slots (Q0 Z p0 p1 p2 p3 p4 p5 h0) (T.setTop (mkF m 150 #[.val (.int p0), .val (.int p1), .val (.int p2), .val (.int p3), .val (.int p4), .val (.int p5), .val (.int (3 : Int32)), .val (.int p1), .val (.int r60), .val (.int r61), .val (.int r62), .val (.ref b63), .unset] [(.int (f4 (1 : Int32) r61 p5)), (.int (r73 + r74))]))
    generalize hr75 : (f4 (1 : Int32) r61 p5) = r75
    refine G.iadd P at_150 (pc' := 151) rfl ?_
    refine G.iload P at_151 rfl (pc' := 153) rfl ?_
    refine G.iconst P at_153 (v := (3 : Int32)) rfl (pc' := 154) rfl ?_
    refine G.icmp_le P at_154 (by decide) (pcY := 161) (by decide) (pcN := 157) rfl (fun _ => ?_) (fun c => absurd c (by decide))
    refine G.iconst P at_161 (v := (0 : Int32)) rfl (pc' := 162) rfl ?_
    refine G.iload P at_162 rfl (pc' := 164) rfl ?_
    refine G.iload P at_164 rfl (pc' := 166) rfl ?_
    refine G.callS P (wd hw (i := 17) rfl) (wd hw (i := 18) rfl) (wd hw (i := 19) rfl) (wd hw (i := 20) rfl) (by decide) (argsL := [(.int (0 : Int32)), (.int r62), (.int p5)]) (rm4 hw (0 : Int32) r62 p5 h71 P.sz) (by decide) (by decide) (cells' := 2) rfl (slots' := 6) rfl (by decide) (by decide) (lenOf pd_4 rfl) rfl (rest := [(.int ((r73 + r74) + r75))]) rfl (W := 1) (Nat.le_of_eq rfl) at_166 (pc' := 169) rfl ?_
    rintro T _ _ P ⟨rfl, rfl⟩
    show Goes p e below s n0 room_1.cells room_1.slots (Q0 Z p0 p1 p2 p3 p4 p5 h0) (T.setTop (mkF m 169 #[.val (.int p0), .val (.int p1), .val (.int p2), .val (.int p3), .val (.int p4), .val (.int p5), .val (.int (3 : Int32)), .val (.int p1), .val (.int r60), .val (.int r61), .val (.int r62), .val (.ref b63), .unset] [(.int (f4 (0 : Int32) r62 p5)), (.int ((r73 + r74) + r75))]))
    generalize hr76 : (f4 (0 : Int32) r62 p5) = r76
    refine G.iadd P at_169 (pc' := 170) rfl ?_
    obtain ⟨x77, hx77⟩ : ∃ z : Int32, (((r73 + r74) + r75) + r76) = z := ⟨_, rfl⟩
    refine G.istore P at_170 hx77 (L' := #[.val (.int p0), .val (.int p1), .val (.int p2), .val (.int p3), .val (.int p4), .val (.int p5), .val (.int (3 : Int32)), .val (.int p1), .val (.int r60), .val (.int r61), .val (.int r62), .val (.ref b63), .val (.int x77)]) rfl (pc' := 172) rfl ?_
    refine G.aload P at_172 rfl rfl (pc' := 174) rfl ?_
    refine G.iload P at_174 rfl (pc' := 176) rfl ?_
    refine G.callV P (wd hw (i := 21) rfl) (wd hw (i := 22) rfl) (wd hw (i := 24) rfl) (wd hw (i := 23) rfl) (wd hw (i := 7) rfl) (wd hw (i := 25) rfl) (by decide) O63.1 (argsL := [(.int p5)]) (a := b63) (rm5 hw b63 p5 b66 ((((0 : Int32) + (1 : Int32)) + (1 : Int32)) + (1 : Int32)) (oupd (oupd (oupd (lst [(0 : Int32), (0 : Int32), (0 : Int32), (0 : Int32)]) 0 p1) 1 r60) 2 r61) 3 h71 O63 Ob66 ne_b63_b66 (own_sz (own_sz (own_sz own_sz0 (by decide)) (by decide)) (by decide)) (by decide) P.sz) (by decide) (by decide) (cells' := 2) rfl (slots' := 6) rfl (by decide) (by decide) (lenOf pd_5 rfl) rfl (rest := []) rfl (W := 0) (Nat.le_of_eq rfl) at_176 (pc' := 179) rfl ?_
    rintro T _ _ P ⟨rfl, rfl⟩
    show Goes p e below s n0 room_1.cells room_1.slots (Q0 Z p0 p1 p2 p3 p4 p5 h0) (T.setTop (mkF m 179 #[.val (.int p0), .val (.int p1), .val (.int p2), .val (.int p3), .val (.int p4), .val (.int p5), .val (.int (3 : Int32)), .val (.int p1), .val (.int r60), .val (.int r61), .val (.int r62), .val (.ref b63), .val (.int x77)] [(.int (Int32.ofNat (own_lb (oupd (oupd (oupd (lst [(0 : Int32), (0 : Int32), (0 : Int32), (0 : Int32)]) 0 p1) 1 r60) 2 r61) p5 0 3)))]))
    refine G.iload P at_179 rfl (pc' := 181) rfl ?_
    have J189_181 : ∀ (z78 : Int32), z78 = (if (Int32.ofNat (own_lb (oupd (oupd (oupd (lst [(0 : Int32), (0 : Int32), (0 : Int32), (0 : Int32)]) 0 p1) 1 r60) 2 r61) p5 0 3)) = x77 then (1 : Int32) else (0 : Int32)) → Goes p e below s n0 room_1.cells room_1.slots (Q0 Z p0 p1 p2 p3 p4 p5 h0) (T.setTop (mkF m 189 #[.val (.int p0), .val (.int p1), .val (.int p2), .val (.int p3), .val (.int p4), .val (.int p5), .val (.int (3 : Int32)), .val (.int p1), .val (.int r60), .val (.int r61), .val (.int r62), .val (.ref b63), .val (.int x77)] [(.int z78)])) := by
      intro z78 hz78
      have w1 : ¬ r60 < p1 := by rw [← hr60]; exact own_max _ _
      have w2 : ¬ r61 < r60 := by rw [← hr61]; exact own_max _ _
      have w3 : ¬ r62 < r61 := by rw [← hr62]; exact own_max _ _
      obtain ⟨u0, u1, u2⟩ := own_g3 (lst [(0 : Int32), (0 : Int32), (0 : Int32), (0 : Int32)]) p1 r60 r61
      have e1 : (Int32.ofNat (own_lb (oupd (oupd (oupd (lst [(0 : Int32), (0 : Int32), (0 : Int32), (0 : Int32)]) 0 p1) 1 r60) 2 r61) p5 0 3)) = x77 := by rw [← hx77, ← hr73, ← hr74, ← hr75, ← hr76]; exact own_k3 (oupd (oupd (oupd (lst [(0 : Int32), (0 : Int32), (0 : Int32), (0 : Int32)]) 0 p1) 1 r60) 2 r61) p1 r60 r61 r62 p5 u0 u1 u2 w1 w2
      exact G.ireturnN P (t := .boolean) rfl (by simp) rfl at_189 (by decide) (by decide) ⟨congrArg (fun z => some (Value.int z)) (by rw [hz78, if_pos e1]; rfl), trivial⟩
    refine G.icmp_ne P at_181 (by decide) (pcY := 188) (by decide) (pcN := 184) rfl (fun c181 => ?_) (fun c181 => ?_)
    · refine G.iconst P at_188 (v := (0 : Int32)) rfl (pc' := 189) rfl ?_
      exact J189_181 _ (by simp only [if_neg c181])
    · refine G.iconst P at_184 (v := (1 : Int32)) rfl (pc' := 185) rfl ?_
      refine G.goto P at_185 (by decide) (pc' := 189) (by decide) ?_
      exact J189_181 _ (by simp only [if_pos c181])
  · subst q
    refine G.iloadN P at_8 rfl (pc' := 9) rfl ?_
    refine G.istore P at_9 rfl (L' := #[.val (.int p0), .val (.int p1), .val (.int p2), .val (.int p3), .val (.int p4), .val (.int p5), .val (.int (4 : Int32)), .val (.int p1), .unset, .unset, .unset, .unset, .unset]) rfl (pc' := 11) rfl ?_
    refine G.iload P at_11 rfl (pc' := 13) rfl ?_
    refine G.iloadN P at_13 rfl (pc' := 14) rfl ?_
    refine G.callS P (wd hw (i := 1) rfl) (wd hw (i := 2) rfl) (wd hw (i := 3) rfl) (wd hw (i := 4) rfl) (by decide) (argsL := [(.int p1), (.int p2)]) (rm1 hw p1 p2 h0 P.sz) (by decide) (by decide) (cells' := 0) rfl (slots' := 0) rfl (by decide) (by decide) (lenOf pd_1 rfl) rfl (rest := []) rfl (W := 0) (Nat.le_of_eq rfl) at_14 (pc' := 17) rfl ?_
    rintro T _ _ P ⟨rfl, rfl⟩
    show Goes p e below s n0 room_1.cells room_1.slots (Q0 Z p0 p1 p2 p3 p4 p5 h0) (T.setTop (mkF m 17 #[.val (.int p0), .val (.int p1), .val (.int p2), .val (.int p3), .val (.int p4), .val (.int p5), .val (.int (4 : Int32)), .val (.int p1), .unset, .unset, .unset, .unset, .unset] [(.int (f1 p1 p2))]))
    generalize hr79 : (f1 p1 p2) = r79
    refine G.istore P at_17 rfl (L' := #[.val (.int p0), .val (.int p1), .val (.int p2), .val (.int p3), .val (.int p4), .val (.int p5), .val (.int (4 : Int32)), .val (.int p1), .val (.int r79), .unset, .unset, .unset, .unset]) rfl (pc' := 19) rfl ?_
    refine G.iload P at_19 rfl (pc' := 21) rfl ?_
    refine G.iloadN P at_21 rfl (pc' := 22) rfl ?_
    refine G.callS P (wd hw (i := 1) rfl) (wd hw (i := 2) rfl) (wd hw (i := 3) rfl) (wd hw (i := 4) rfl) (by decide) (argsL := [(.int r79), (.int p3)]) (rm1 hw r79 p3 h0 P.sz) (by decide) (by decide) (cells' := 0) rfl (slots' := 0) rfl (by decide) (by decide) (lenOf pd_1 rfl) rfl (rest := []) rfl (W := 0) (Nat.le_of_eq rfl) at_22 (pc' := 25) rfl ?_
    rintro T _ _ P ⟨rfl, rfl⟩
    show Goes p e below s n0 room_1.cells room_1.slots (Q0 Z p0 p1 p2 p3 p4 p5 h0) (T.setTop (mkF m 25 #[.val (.int p0), .val (.int p1), .val (.int p2), .val (.int p3), .val (.int p4), .val (.int p5), .val (.int (4 : Int32)), .val (.int p1), .val (.int r79), .unset, .unset, .unset, .unset] [(.int (f1 r79 p3))]))
    generalize hr80 : (f1 r79 p3) = r80
    refine G.istore P at_25 rfl (L' := #[.val (.int p0), .val (.int p1), .val (.int p2), .val (.int p3), .val (.int p4), .val (.int p5), .val (.int (4 : Int32)), .val (.int p1), .val (.int r79), .val (.int r80), .unset, .unset, .unset]) rfl (pc' := 27) rfl ?_
    refine G.iload P at_27 rfl (pc' := 29) rfl ?_
    refine G.iload P at_29 rfl (pc' := 31) rfl ?_
    refine G.callS P (wd hw (i := 1) rfl) (wd hw (i := 2) rfl) (wd hw (i := 3) rfl) (wd hw (i := 4) rfl) (by decide) (argsL := [(.int r80), (.int p4)]) (rm1 hw r80 p4 h0 P.sz) (by decide) (by decide) (cells' := 0) rfl (slots' := 0) rfl (by decide) (by decide) (lenOf pd_1 rfl) rfl (rest := []) rfl (W := 0) (Nat.le_of_eq rfl) at_31 (pc' := 34) rfl ?_
    rintro T _ _ P ⟨rfl, rfl⟩
    show Goes p e below s n0 room_1.cells room_1.slots (Q0 Z p0 p1 p2 p3 p4 p5 h0) (T.setTop (mkF m 34 #[.val (.int p0), .val (.int p1), .val (.int p2), .val (.int p3), .val (.int p4), .val (.int p5), .val (.int (4 : Int32)), .val (.int p1), .val (.int r79), .val (.int r80), .unset, .unset, .unset] [(.int (f1 r80 p4))]))
    generalize hr81 : (f1 r80 p4) = r81
    refine G.istore P at_34 rfl (L' := #[.val (.int p0), .val (.int p1), .val (.int p2), .val (.int p3), .val (.int p4), .val (.int p5), .val (.int (4 : Int32)), .val (.int p1), .val (.int r79), .val (.int r80), .val (.int r81), .unset, .unset]) rfl (pc' := 36) rfl ?_
    refine G.new P (wd hw (i := 5) rfl) (wd hw (i := 6) rfl) (wd hw (i := 7) rfl) at_36 (cells' := 1) rfl (slots' := 2) rfl (by decide) (by decide) (pc' := 39) rfl ?_
    intro T h82 b82 hb82 g_b82 P E82 X82 D82
    have O82 := ObIL.new hw X82 @D82
    refine G.dup P at_39 rfl (pc' := 40) rfl ?_
    refine G.callI P rfl (wd hw (i := 8) rfl) (wd hw (i := 9) rfl) (wd hw (i := 7) rfl) (wd hw (i := 10) rfl) (by decide) (argsL := []) (a := b82) (rm2 hw b82 h82 O82 g_b82 P.sz) (by decide) (by decide) (cells' := 2) rfl (slots' := 6) rfl (by decide) (by decide) (lenOf pd_2 rfl) rfl (rest := [(.ref b82)]) rfl (W := 1) (Nat.le_of_eq rfl) at_40 (pc' := 43) rfl ?_
    have old_b85 := P.sz
    rintro T h83 _ P ⟨b85, rfl, sz_b85, K84, Ob85, O82'⟩
    have g_b85 : n0 ≤ b85 := Nat.le_trans old_b85 sz_b85
    have ne_b82_b85 : b82 ≠ b85 := Nat.ne_of_lt (Nat.lt_of_lt_of_le O82.lt sz_b85)
    replace O82 := O82'
    show Goes p e below s n0 room_1.cells room_1.slots (Q0 Z p0 p1 p2 p3 p4 p5 h0) (T.setTop (mkF m 43 #[.val (.int p0), .val (.int p1), .val (.int p2), .val (.int p3), .val (.int p4), .val (.int p5), .val (.int (4 : Int32)), .val (.int p1), .val (.int r79), .val (.int r80), .val (.int r81), .unset, .unset] [(.ref b82)]))
    refine G.astore P at_43 rfl (L' := #[.val (.int p0), .val (.int p1), .val (.int p2), .val (.int p3), .val (.int p4), .val (.int p5), .val (.int (4 : Int32)), .val (.int p1), .val (.int r79), .val (.int r80), .val (.int r81), .val (.ref b82), .unset]) rfl (pc' := 45) rfl ?_
    refine G.iload P at_45 rfl (pc' := 47) rfl ?_
    refine G.if_le P at_47 (by decide) (pcY := 57) (by decide) (pcN := 50) rfl (fun c => absurd c (by decide)) (fun _ => ?_)
    refine G.aload P at_50 rfl rfl (pc' := 52) rfl ?_
    refine G.iload P at_52 rfl (pc' := 54) rfl ?_
    refine G.callV P (wd hw (i := 28) rfl) (wd hw (i := 29) rfl) (wd hw (i := 31) rfl) (wd hw (i := 30) rfl) (wd hw (i := 7) rfl) (wd hw (i := 32) rfl) (by decide) O82.1 (argsL := [(.int p1)]) (a := b82) (rm6 hw b82 p1 b85 (0 : Int32) (lst [(0 : Int32), (0 : Int32), (0 : Int32), (0 : Int32)]) 0 h83 O82 Ob85 ne_b82_b85 g_b82 g_b85 own_sz0 (by decide) P.sz) (by decide) (by decide) (cells' := 2) rfl (slots' := 6) rfl (by decide) (by decide) (lenOf pd_6 rfl) rfl (rest := []) rfl (W := 0) (Nat.le_of_eq rfl) at_54 (pc' := 57) rfl ?_
    clear O82
    clear Ob85
    rintro T h86 _ P ⟨rfl, K87, O82, Ob85⟩
    show Goes p e below s n0 room_1.cells room_1.slots (Q0 Z p0 p1 p2 p3 p4 p5 h0) (T.setTop (mkF m 57 #[.val (.int p0), .val (.int p1), .val (.int p2), .val (.int p3), .val (.int p4), .val (.int p5), .val (.int (4 : Int32)), .val (.int p1), .val (.int r79), .val (.int r80), .val (.int r81), .val (.ref b82), .unset] []))
    refine G.iload P at_57 rfl (pc' := 59) rfl ?_
    refine G.iconst P at_59 (v := (1 : Int32)) rfl (pc' := 60) rfl ?_
    refine G.icmp_le P at_60 (by decide) (pcY := 70) (by decide) (pcN := 63) rfl (fun c => absurd c (by decide)) (fun _ => ?_)
    refine G.aload P at_63 rfl rfl (pc' := 65) rfl ?_
    refine G.iload P at_65 rfl (pc' := 67) rfl ?_
    refine G.callV P (wd hw (i := 28) rfl) (wd hw (i := 29) rfl) (wd hw (i := 31) rfl) (wd hw (i := 30) rfl) (wd hw (i := 7) rfl) (wd hw (i := 32) rfl) (by decide) O82.1 (argsL := [(.int r79)]) (a := b82) (rm6 hw b82 r79 b85 ((0 : Int32) + (1 : Int32)) (oupd (lst [(0 : Int32), (0 : Int32), (0 : Int32), (0 : Int32)]) 0 p1) 1 h86 O82 Ob85 ne_b82_b85 g_b82 g_b85 (own_sz own_sz0 (by decide)) (by decide) P.sz) (by decide) (by decide) (cells' := 2) rfl (slots' := 6) rfl (by decide) (by decide) (lenOf pd_6 rfl) rfl (rest := []) rfl (W := 0) (Nat.le_of_eq rfl) at_67 (pc' := 70) rfl ?_
    clear O82
    clear Ob85
    rintro T h88 _ P ⟨rfl, K89, O82, Ob85⟩
    show Goes p e below s n0 room_1.cells room_1.slots (Q0 Z p0 p1 p2 p3 p4 p5 h0) (T.setTop (mkF m 70 #[.val (.int p0), .val (.int p1), .val (.int p2), .val (.int p3), .val (.int p4), .val (.int p5), .val (.int (4 : Int32)), .val (.int p1), .val (.int r79), .val (.int r80), .val (.int r81), .val (.ref b82), .unset] []))
    refine G.iload P at_70 rfl (pc' := 72) rfl ?_
    refine G.iconst P at_72 (v := (2 : Int32)) rfl (pc' := 73) rfl ?_
    refine G.icmp_le P at_73 (by decide) (pcY := 83) (by decide) (pcN := 76) rfl (fun c => absurd c (by decide)) (fun _ => ?_)
    refine G.aload P at_76 rfl rfl (pc' := 78) rfl ?_
    refine G.iload P at_78 rfl (pc' := 80) rfl ?_
    refine G.callV P (wd hw (i := 28) rfl) (wd hw (i := 29) rfl) (wd hw (i := 31) rfl) (wd hw (i := 30) rfl) (wd hw (i := 7) rfl) (wd hw (i := 32) rfl) (by decide) O82.1 (argsL := [(.int r80)]) (a := b82) (rm6 hw b82 r80 b85 (((0 : Int32) + (1 : Int32)) + (1 : Int32)) (oupd (oupd (lst [(0 : Int32), (0 : Int32), (0 : Int32), (0 : Int32)]) 0 p1) 1 r79) 2 h88 O82 Ob85 ne_b82_b85 g_b82 g_b85 (own_sz (own_sz own_sz0 (by decide)) (by decide)) (by decide) P.sz) (by decide) (by decide) (cells' := 2) rfl (slots' := 6) rfl (by decide) (by decide) (lenOf pd_6 rfl) rfl (rest := []) rfl (W := 0) (Nat.le_of_eq rfl) at_80 (pc' := 83) rfl ?_
    clear O82
    clear Ob85
    rintro T h90 _ P ⟨rfl, K91, O82, Ob85⟩
    show Goes p e below s n0 room_1.cells room_1.slots (Q0 Z p0 p1 p2 p3 p4 p5 h0) (T.setTop (mkF m 83 #[.val (.int p0), .val (.int p1), .val (.int p2), .val (.int p3), .val (.int p4), .val (.int p5), .val (.int (4 : Int32)), .val (.int p1), .val (.int r79), .val (.int r80), .val (.int r81), .val (.ref b82), .unset] []))
    refine G.iload P at_83 rfl (pc' := 85) rfl ?_
    refine G.iconst P at_85 (v := (3 : Int32)) rfl (pc' := 86) rfl ?_
    refine G.icmp_le P at_86 (by decide) (pcY := 96) (by decide) (pcN := 89) rfl (fun c => absurd c (by decide)) (fun _ => ?_)
    refine G.aload P at_89 rfl rfl (pc' := 91) rfl ?_
    refine G.iload P at_91 rfl (pc' := 93) rfl ?_
    refine G.callV P (wd hw (i := 28) rfl) (wd hw (i := 29) rfl) (wd hw (i := 31) rfl) (wd hw (i := 30) rfl) (wd hw (i := 7) rfl) (wd hw (i := 32) rfl) (by decide) O82.1 (argsL := [(.int r81)]) (a := b82) (rm6 hw b82 r81 b85 ((((0 : Int32) + (1 : Int32)) + (1 : Int32)) + (1 : Int32)) (oupd (oupd (oupd (lst [(0 : Int32), (0 : Int32), (0 : Int32), (0 : Int32)]) 0 p1) 1 r79) 2 r80) 3 h90 O82 Ob85 ne_b82_b85 g_b82 g_b85 (own_sz (own_sz (own_sz own_sz0 (by decide)) (by decide)) (by decide)) (by decide) P.sz) (by decide) (by decide) (cells' := 2) rfl (slots' := 6) rfl (by decide) (by decide) (lenOf pd_6 rfl) rfl (rest := []) rfl (W := 0) (Nat.le_of_eq rfl) at_93 (pc' := 96) rfl ?_
    clear O82
    clear Ob85
    rintro T h92 _ P ⟨rfl, K93, O82, Ob85⟩
    show Goes p e below s n0 room_1.cells room_1.slots (Q0 Z p0 p1 p2 p3 p4 p5 h0) (T.setTop (mkF m 96 #[.val (.int p0), .val (.int p1), .val (.int p2), .val (.int p3), .val (.int p4), .val (.int p5), .val (.int (4 : Int32)), .val (.int p1), .val (.int r79), .val (.int r80), .val (.int r81), .val (.ref b82), .unset] []))
    refine G.iload P at_96 rfl (pc' := 98) rfl ?_
    refine G.if_le P at_98 (by decide) (pcY := 105) (by decide) (pcN := 101) rfl (fun c => absurd c (by decide)) (fun _ => ?_)
    refine G.iconst P at_101 (v := (1 : Int32)) rfl (pc' := 102) rfl ?_
    refine G.goto P at_102 (by decide) (pc' := 106) (by decide) ?_
    refine G.iload P at_106 rfl (pc' := 108) rfl ?_
    refine G.iload P at_108 rfl (pc' := 110) rfl ?_
    refine G.callS P (wd hw (i := 17) rfl) (wd hw (i := 18) rfl) (wd hw (i := 19) rfl) (wd hw (i := 20) rfl) (by decide) (argsL := [(.int (1 : Int32)), (.int p1), (.int p5)]) (rm4 hw (1 : Int32) p1 p5 h92 P.sz) (by decide) (by decide) (cells' := 2) rfl (slots' := 6) rfl (by decide) (by decide) (lenOf pd_4 rfl) rfl (rest := []) rfl (W := 0) (Nat.le_of_eq rfl) at_110 (pc' := 113) rfl ?_
    rintro T _ _ P ⟨rfl, rfl⟩
    show Goes p e below s n0 room_1.cells room_1.slots (Q0 Z p0 p1 p2 p3 p4 p5 h0) (T.setTop (mkF m 113 #[.val (.int p0), .val (.int p1), .val (.int p2), .val (.int p3), .val (.int p4), .val (.int p5), .val (.int (4 : Int32)), .val (.int p1), .val (.int r79), .val (.int r80), .val (.int r81), .val (.ref b82), .unset] [(.int (f4 (1 : Int32) p1 p5))]))
    generalize hr94 : (f4 (1 : Int32) p1 p5) = r94
    refine G.iload P at_113 rfl (pc' := 115) rfl ?_
    refine G.iconst P at_115 (v := (1 : Int32)) rfl (pc' := 116) rfl ?_
    refine G.icmp_le P at_116 (by decide) (pcY := 123) (by decide) (pcN := 119) rfl (fun c => absurd c (by decide)) (fun _ => ?_)
    refine G.iconst P at_119 (v := (1 : Int32)) rfl (pc' := 120) rfl ?_
    refine G.goto P at_120 (by decide) (pc' := 124) (by decide) ?_
    refine G.iload P at_124 rfl (pc' := 126) rfl ?_
    refine G.iload P at_126 rfl (pc' := 128) rfl ?_
    refine G.callS P (wd hw (i := 17) rfl) (wd hw (i := 18) rfl) (wd hw (i := 19) rfl) (wd hw (i := 20) rfl) (by decide) (argsL := [(.int (1 : Int32)), (.int r79), (.int p5)]) (rm4 hw (1 : Int32) r79 p5 h92 P.sz) (by decide) (by decide) (cells' := 2) rfl (slots' := 6) rfl (by decide) (by decide) (lenOf pd_4 rfl) rfl (rest := [(.int r94)]) rfl (W := 1) (Nat.le_of_eq rfl) at_128 (pc' := 131) rfl ?_
    rintro T _ _ P ⟨rfl, rfl⟩
    show Goes p e below s n0 room_1.cells room_1.slots (Q0 Z p0 p1 p2 p3 p4 p5 h0) (T.setTop (mkF m 131 #[.val (.int p0), .val (.int p1), .val (.int p2), .val (.int p3), .val (.int p4), .val (.int p5), .val (.int (4 : Int32)), .val (.int p1), .val (.int r79), .val (.int r80), .val (.int r81), .val (.ref b82), .unset] [(.int (f4 (1 : Int32) r79 p5)), (.int r94)]))
    generalize hr95 : (f4 (1 : Int32) r79 p5) = r95
    refine G.iadd P at_131 (pc' := 132) rfl ?_
    refine G.iload P at_132 rfl (pc' := 134) rfl ?_
    refine G.iconst P at_134 (v := (2 : Int32)) rfl (pc' := 135) rfl ?_
    refine G.icmp_le P at_135 (by decide) (pcY := 142) (by decide) (pcN := 138) rfl (fun c => absurd c (by decide)) (fun _ => ?_)
    refine G.iconst P at_138 (v := (1 : Int32)) rfl (pc' := 139) rfl ?_
    refine G.goto P at_139 (by decide) (pc' := 143) (by decide) ?_
    refine G.iload P at_143 rfl (pc' := 145) rfl ?_
    refine G.iload P at_145 rfl (pc' := 147) rfl ?_
    refine G.callS P (wd hw (i := 17) rfl) (wd hw (i := 18) rfl) (wd hw (i := 19) rfl) (wd hw (i := 20) rfl) (by decide) (argsL := [(.int (1 : Int32)), (.int r80), (.int p5)]) (rm4 hw (1 : Int32) r80 p5 h92 P.sz) (by decide) (by decide) (cells' := 2) rfl (slots' := 6) rfl (by decide) (by decide) (lenOf pd_4 rfl) rfl (rest := [(.int (r94 + r95))]) rfl (W := 1) (Nat.le_of_eq rfl) at_147 (pc' := 150) rfl ?_
    rintro T _ _ P ⟨rfl, rfl⟩
    show Goes p e below s n0 room_1.cells room_1.slots (Q0 Z p0 p1 p2 p3 p4 p5 h0) (T.setTop (mkF m 150 #[.val (.int p0), .val (.int p1), .val (.int p2), .val (.int p3), .val (.int p4), .val (.int p5), .val (.int (4 : Int32)), .val (.int p1), .val (.int r79), .val (.int r80), .val (.int r81), .val (.ref b82), .unset] [(.int (f4 (1 : Int32) r80 p5)), (.int (r94 + r95))]))
    generalize hr96 : (f4 (1 : Int32) r80 p5) = r96
    refine G.iadd P at_150 (pc' := 151) rfl ?_
    refine G.iload P at_151 rfl (pc' := 153) rfl ?_
    refine G.iconst P at_153 (v := (3 : Int32)) rfl (pc' := 154) rfl ?_
    refine G.icmp_le P at_154 (by decide) (pcY := 161) (by decide) (pcN := 157) rfl (fun c => absurd c (by decide)) (fun _ => ?_)
    refine G.iconst P at_157 (v := (1 : Int32)) rfl (pc' := 158) rfl ?_
    refine G.goto P at_158 (by decide) (pc' := 162) (by decide) ?_
    refine G.iload P at_162 rfl (pc' := 164) rfl ?_
    refine G.iload P at_164 rfl (pc' := 166) rfl ?_
    refine G.callS P (wd hw (i := 17) rfl) (wd hw (i := 18) rfl) (wd hw (i := 19) rfl) (wd hw (i := 20) rfl) (by decide) (argsL := [(.int (1 : Int32)), (.int r81), (.int p5)]) (rm4 hw (1 : Int32) r81 p5 h92 P.sz) (by decide) (by decide) (cells' := 2) rfl (slots' := 6) rfl (by decide) (by decide) (lenOf pd_4 rfl) rfl (rest := [(.int ((r94 + r95) + r96))]) rfl (W := 1) (Nat.le_of_eq rfl) at_166 (pc' := 169) rfl ?_
    rintro T _ _ P ⟨rfl, rfl⟩
    show Goes p e below s n0 room_1.cells room_1.slots (Q0 Z p0 p1 p2 p3 p4 p5 h0) (T.setTop (mkF m 169 #[.val (.int p0), .val (.int p1), .val (.int p2), .val (.int p3), .val (.int p4), .val (.int p5), .val (.int (4 : Int32)), .val (.int p1), .val (.int r79), .val (.int r80), .val (.int r81), .val (.ref b82), .unset] [(.int (f4 (1 : Int32) r81 p5)), (.int ((r94 + r95) + r96))]))
    generalize hr97 : (f4 (1 : Int32) r81 p5) = r97
    refine G.iadd P at_169 (pc' := 170) rfl ?_
    obtain ⟨x98, hx98⟩ : ∃ z : Int32, (((r94 + r95) + r96) + r97) = z := ⟨_, rfl⟩
    refine G.istore P at_170 hx98 (L' := #[.val (.int p0), .val (.int p1), .val (.int p2), .val (.int p3), .val (.int p4), .val (.int p5), .val (.int (4 : Int32)), .val (.int p1), .val (.int r79), .val (.int r80), .val (.int r81), .val (.ref b82), .val (.int x98)]) rfl (pc' := 172) rfl ?_
    refine G.aload P at_172 rfl rfl (pc' := 174) rfl ?_
    refine G.iload P at_174 rfl (pc' := 176) rfl ?_
    refine G.callV P (wd hw (i := 21) rfl) (wd hw (i := 22) rfl) (wd hw (i := 24) rfl) (wd hw (i := 23) rfl) (wd hw (i := 7) rfl) (wd hw (i := 25) rfl) (by decide) O82.1 (argsL := [(.int p5)]) (a := b82) (rm5 hw b82 p5 b85 (((((0 : Int32) + (1 : Int32)) + (1 : Int32)) + (1 : Int32)) + (1 : Int32)) (oupd (oupd (oupd (oupd (lst [(0 : Int32), (0 : Int32), (0 : Int32), (0 : Int32)]) 0 p1) 1 r79) 2 r80) 3 r81) 4 h92 O82 Ob85 ne_b82_b85 (own_sz (own_sz (own_sz (own_sz own_sz0 (by decide)) (by decide)) (by decide)) (by decide)) (by decide) P.sz) (by decide) (by decide) (cells' := 2) rfl (slots' := 6) rfl (by decide) (by decide) (lenOf pd_5 rfl) rfl (rest := []) rfl (W := 0) (Nat.le_of_eq rfl) at_176 (pc' := 179) rfl ?_
    rintro T _ _ P ⟨rfl, rfl⟩
    show Goes p e below s n0 room_1.cells room_1.slots (Q0 Z p0 p1 p2 p3 p4 p5 h0) (T.setTop (mkF m 179 #[.val (.int p0), .val (.int p1), .val (.int p2), .val (.int p3), .val (.int p4), .val (.int p5), .val (.int (4 : Int32)), .val (.int p1), .val (.int r79), .val (.int r80), .val (.int r81), .val (.ref b82), .val (.int x98)] [(.int (Int32.ofNat (own_lb (oupd (oupd (oupd (oupd (lst [(0 : Int32), (0 : Int32), (0 : Int32), (0 : Int32)]) 0 p1) 1 r79) 2 r80) 3 r81) p5 0 4)))]))
    refine G.iload P at_179 rfl (pc' := 181) rfl ?_
    have J189_181 : ∀ (z99 : Int32), z99 = (if (Int32.ofNat (own_lb (oupd (oupd (oupd (oupd (lst [(0 : Int32), (0 : Int32), (0 : Int32), (0 : Int32)]) 0 p1) 1 r79) 2 r80) 3 r81) p5 0 4)) = x98 then (1 : Int32) else (0 : Int32)) → Goes p e below s n0 room_1.cells room_1.slots (Q0 Z p0 p1 p2 p3 p4 p5 h0) (T.setTop (mkF m 189 #[.val (.int p0), .val (.int p1), .val (.int p2), .val (.int p3), .val (.int p4), .val (.int p5), .val (.int (4 : Int32)), .val (.int p1), .val (.int r79), .val (.int r80), .val (.int r81), .val (.ref b82), .val (.int x98)] [(.int z99)])) := by
      intro z99 hz99
      have w1 : ¬ r79 < p1 := by rw [← hr79]; exact own_max _ _
      have w2 : ¬ r80 < r79 := by rw [← hr80]; exact own_max _ _
      have w3 : ¬ r81 < r80 := by rw [← hr81]; exact own_max _ _
      obtain ⟨u0, u1, u2, u3⟩ := own_g4 (lst [(0 : Int32), (0 : Int32), (0 : Int32), (0 : Int32)]) p1 r79 r80 r81
      have e1 : (Int32.ofNat (own_lb (oupd (oupd (oupd (oupd (lst [(0 : Int32), (0 : Int32), (0 : Int32), (0 : Int32)]) 0 p1) 1 r79) 2 r80) 3 r81) p5 0 4)) = x98 := by rw [← hx98, ← hr94, ← hr95, ← hr96, ← hr97]; exact own_k4 (oupd (oupd (oupd (oupd (lst [(0 : Int32), (0 : Int32), (0 : Int32), (0 : Int32)]) 0 p1) 1 r79) 2 r80) 3 r81) p1 r79 r80 r81 p5 u0 u1 u2 u3 w1 w2 w3
      exact G.ireturnN P (t := .boolean) rfl (by simp) rfl at_189 (by decide) (by decide) ⟨congrArg (fun z => some (Value.int z)) (by rw [hz99, if_pos e1]; rfl), trivial⟩
    refine G.icmp_ne P at_181 (by decide) (pcY := 188) (by decide) (pcN := 184) rfl (fun c181 => ?_) (fun c181 => ?_)
    · refine G.iconst P at_188 (v := (0 : Int32)) rfl (pc' := 189) rfl ?_
      exact J189_181 _ (by simp only [if_neg c181])
    · refine G.iconst P at_184 (v := (1 : Int32)) rfl (pc' := 185) rfl ?_
      refine G.goto P at_185 (by decide) (pc' := 189) (by decide) ?_
      exact J189_181 _ (by simp only [if_pos c181])
set_option maxRecDepth 65536 in
set_option maxHeartbeats 40000000 in
theorem comes_1 {Post : Tables → Env → Array Value → State → Outcome → State → Prop} (hpost : ∀ tb e args s v u, (limb_1_1.after args s (.returned v) u = true ∧ limb_1_2.after args s (.returned v) u = true) → FrameEnd s (.returned v) u (Jvm.fieldLocs frame_1_writes args s ++ Jvm.arrayLocs frame_1_arrays args s ++ Jvm.staticLocs frame_1_statics s) 16 128 → Post tb e args s (.returned v) u) :
    ArmFor flags0 classFile x code maxLocals ret World_1 tables_1 room_1 Calls_1 rest_1 Pre_1 Post := by
  intro l hfl _ _ p e ha hc hk s m args below hf hA hF happ hP
  obtain ⟨hcalls, hrest, hpre⟩ := hP
  obtain ⟨-, -, -, hnamed, -, -, -, hat⟩ := (Spec.applies_iff hf).mp happ
  obtain ⟨hg, hn⟩ := and_e (Cond.before_iff.mp (show (Jvm.Cond.and given_1 narrow_1).before args s = true from hpre))
  obtain ⟨hcount, g0⟩ := and_e hg
  obtain ⟨v0, g1⟩ := and_e g0
  obtain ⟨v1, g2⟩ := and_e g1
  obtain ⟨v2, g3⟩ := and_e g2
  obtain ⟨v3, g4⟩ := and_e g3
  obtain ⟨v4, g5⟩ := and_e g4
  have v5 := g5
  obtain ⟨w0, w1, w2, w3, w4, w5, rfl⟩ : ∃ w0 w1 w2 w3 w4 w5 : Value, args = #[w0, w1, w2, w3, w4, w5] := by
    have hs : args.size = 6 := by simpa [Cond.value, given_1] using hcount
    obtain ⟨L⟩ := args
    match L, hs with
    | [w0, w1, w2, w3, w4, w5], _ => exact ⟨w0, w1, w2, w3, w4, w5, rfl⟩
  have hw := fun d (hd : d ∈ tables_1) => atoms_spec (ws := Jvm.Cond.code x code maxLocals ret :: tables_1) hat d (List.mem_cons_of_mem _ hd)
  obtain ⟨i0, ei0⟩ := is_v v0
  obtain rfl : w0 = (.int i0) := Option.some.inj ei0
  obtain ⟨i1, ei1⟩ := is_v v1
  obtain rfl : w1 = (.int i1) := Option.some.inj ei1
  obtain ⟨i2, ei2⟩ := is_v v2
  obtain rfl : w2 = (.int i2) := Option.some.inj ei2
  obtain ⟨i3, ei3⟩ := is_v v3
  obtain rfl : w3 = (.int i3) := Option.some.inj ei3
  obtain ⟨i4, ei4⟩ := is_v v4
  obtain rfl : w4 = (.int i4) := Option.some.inj ei4
  obtain ⟨i5, ei5⟩ := is_v v5
  obtain rfl : w5 = (.int i5) := Option.some.inj ei5
  obtain ⟨n, o, h1, h2, h3, v, L, rfl, ⟨hQ, N⟩, hq⟩ := rm0 hw i0 i1 i2 i3 i4 i5 s.heap (Nat.le_refl s.heap.size) tables_1 p e ha hc hk s m _ below hf ((Spec.applies_iff_loose hf).mp happ).1 ⟨rfl, State.Warmed39.refl s, rfl⟩ trivial
  obtain rfl : v = some (.int 1) := hQ.1
  refine ⟨n, _, h1, h2, h3, hpost _ _ _ _ _ _ ⟨Cond.after_iff.mpr rfl, Cond.after_iff.mpr (eq_i res_at (Term.int_eval (1)) rfl)⟩ ⟨hq.1, hq.2.1, (hq.2.2.sift fun y hy => Or.inr (N y hy)).mono (by decide) (by decide)⟩⟩
theorem main_1_1 : Claimed_1_1 := comes_1 fun _ _ _ _ _ _ h hF => ⟨h.1, hF⟩
theorem main_1_2 : Claimed_1_2 := comes_1 fun _ _ _ _ _ _ h hF => ⟨h.2, hF⟩
end Jvm.Pilot.@@N@@
namespace Jvm.Pilot.@@N@@
open Jvm Jvm.ClassFile Sem Op Lib Jvm.Free Jvm.Stand Jvm.Pilot.@@N@@.Jvm.D
/-! MADE BY PROGRAM (witnessworld.py) out of the Statement's table words and the real class files: 10 classes; the members and pool entries that the words name. The judged class is class 1, her method 1. -/
namespace start1
open Jvm.ClassFile
def u (s : String) : CpInfo := .utf8 (stringToUtf16 s)
/-- a pool by its gaps: so many unusable entries, then the entry; so many at the end -/
def gap : Nat → List CpInfo → List CpInfo
  | 0, r => r
  | n + 1, r => .unusable :: gap n r
def poolList (es : List (Nat × CpInfo)) (last : Nat) : List CpInfo := es.foldr (fun e r => gap e.1 (e.2 :: r)) (gap last [])
def pool (es : List (Nat × CpInfo)) (last : Nat) : Array CpInfo := ⟨poolList es last⟩
def fileOf (pool : Array CpInfo) (this : Nat) (attrs : Array Attribute := #[]) (ms : Array MethodInfo := #[]) (fl : Nat := 33) (sup : Nat := 0) (ifs : Array Nat := #[]) (fds : Array FieldInfo := #[]) : ClassFile where
  minorVersion := 0
  majorVersion := 65
  constantPool := pool
  accessFlags := fl
  thisClass := this
  superClass := sup
  interfaces := ifs
  fields := fds
  methods := ms
  attributes := attrs
def plain (name : String) (sup : Option ClassId) : Class where
  name := name
  kind := .ordinary
  loader := none
  accessFlags := 33
  super := sup
  interfaces := #[]
  cf := none
  fields := #[]
  methods := #[]
  instanceTypes := #[]
  staticTypes := #[]
  resolved := #[]
  callSites := []
  init := .initialized
  statics := none
  mirror := none

def pool0 : Array CpInfo := pool [(5, u "<init>"), (0, u "()V"), (1, .class_ 10), (1, u "java/lang/Object")] 113

def k0c0 : Code := { maxStack := 0, maxLocals := 1, code := object_method_1_code, exceptionTable := #[], attributes := #[] }
def k0m0 : Method := { name := "<init>", desc := "()V", sig := { parameters := [], returnType := none }, accessFlags := 1, code := some k0c0 }
/-- java/lang/Object -/
def k0 : Class := { plain "java/lang/Object" none with
  accessFlags := 33
  interfaces := #[]
  cf := some (fileOf pool0 8 #[] #[{ accessFlags := 1, nameIndex := 5, descriptorIndex := 6, attributes := #[] }] 33 0 #[] #[])
  fields := #[]
  methods := #[k0m0]
  instanceTypes := #[]
  staticTypes := #[]
  resolved := Array.replicate 124 none
  statics := none }

def pool1 : Array CpInfo := pool [(2, .class_ 4), (0, .nameAndType 5 6), (0, u "java/lang/Object"), (0, u "<init>"), (0, u "()V"), (0, .integer 2147483647), (0, .methodref 9 10), (0, .class_ 11), (0, .nameAndType 12 13), (0, u "java/lang/Math"), (0, u "max"), (0, u "(II)I"), (0, .class_ 15), (0, u "com/example/rila/rila/store/IntList"), (0, .methodref 14 3), (0, .methodref 14 18), (0, .nameAndType 19 20), (0, u "add"), (0, u "(I)V"), (0, .methodref 22 23), (0, .class_ 24), (0, .nameAndType 25 26), (0, u "com/example/rila/rila/store/IntListLowerBoundPinLaw"), (0, u "below"), (0, u "(ZII)I"), (0, .methodref 14 28), (0, .nameAndType 29 30), (0, u "lowerBound"), (0, u "(I)I"), (2, u "law"), (0, u "(IIIIII)Z")] 3

def k1m0 : Method := { name := "<init>", desc := "()V", sig := { parameters := [], returnType := none }, accessFlags := 1, code := none }
def k1c1 : Code := { maxStack := 4, maxLocals := 13, code := code, exceptionTable := #[], attributes := #[] }
def k1m1 : Method := { name := "law", desc := "(IIIIII)Z", sig := { parameters := [.int, .int, .int, .int, .int, .int], returnType := some .boolean }, accessFlags := 9, code := some k1c1 }
def k1c2 : Code := { maxStack := 2, maxLocals := 3, code := method_3_code, exceptionTable := #[], attributes := #[] }
def k1m2 : Method := { name := "below", desc := "(ZII)I", sig := { parameters := [.boolean, .int, .int], returnType := some .int }, accessFlags := 10, code := some k1c2 }
/-- com/example/rila/rila/store/IntListLowerBoundPinLaw -/
def k1 : Class := { plain "com/example/rila/rila/store/IntListLowerBoundPinLaw" (some 0) with
  accessFlags := 49
  interfaces := #[]
  cf := some (fileOf pool1 22 #[] #[{ accessFlags := 1, nameIndex := 5, descriptorIndex := 6, attributes := #[] }, { accessFlags := 9, nameIndex := 33, descriptorIndex := 34, attributes := #[] }, { accessFlags := 10, nameIndex := 25, descriptorIndex := 26, attributes := #[] }] 49 2 #[] #[])
  fields := #[]
  methods := #[k1m0, k1m1, k1m2]
  instanceTypes := #[]
  staticTypes := #[]
  resolved := Array.replicate 38 none
  statics := none }

def pool2 : Array CpInfo := pool [(1, .class_ 2), (0, u "java/lang/Math"), (1, .class_ 6), (1, u "java/lang/Object"), (0, u "<init>"), (0, u "()V"), (89, .class_ 100), (1, u "java/lang/Math$RandomNumberGeneratorHolder"), (71, u "negativeZeroFloatBits"), (0, u "J"), (2, u "negativeZeroDoubleBits"), (21, u "max"), (46, u "$assertionsDisabled"), (0, u "Z"), (88, u "(II)I"), (2, u "twoToTheDoubleScaleDown"), (0, u "D"), (4, u "twoToTheDoubleScaleUp"), (9, u "E"), (3, u "PI"), (2, u "TAU"), (2, u "DEGREES_TO_RADIANS"), (0, u "RADIANS_TO_DEGREES")] 94

def k2m0 : Method := { name := "<init>", desc := "()V", sig := { parameters := [], returnType := none }, accessFlags := 2, code := none }
def k2c1 : Code := { maxStack := 2, maxLocals := 2, code := jdk_29_method_65_code, exceptionTable := #[], attributes := #[] }
def k2m1 : Method := { name := "max", desc := "(II)I", sig := { parameters := [.int, .int], returnType := some .int }, accessFlags := 9, code := some k2c1 }
/-- java/lang/Math -/
def k2 : Class := { plain "java/lang/Math" (some 0) with
  accessFlags := 49
  interfaces := #[]
  cf := some (fileOf pool2 1 #[.nestMembers #[98]] #[{ accessFlags := 2, nameIndex := 7, descriptorIndex := 8, attributes := #[] }, { accessFlags := 9, nameIndex := 198, descriptorIndex := 335, attributes := #[] }] 49 4 #[] #[{ accessFlags := 25, nameIndex := 354, descriptorIndex := 339, attributes := #[] }, { accessFlags := 25, nameIndex := 358, descriptorIndex := 339, attributes := #[] }, { accessFlags := 25, nameIndex := 361, descriptorIndex := 339, attributes := #[] }, { accessFlags := 26, nameIndex := 364, descriptorIndex := 339, attributes := #[] }, { accessFlags := 26, nameIndex := 365, descriptorIndex := 339, attributes := #[] }, { accessFlags := 26, nameIndex := 172, descriptorIndex := 173, attributes := #[] }, { accessFlags := 26, nameIndex := 176, descriptorIndex := 173, attributes := #[] }, { accessFlags := 8, nameIndex := 344, descriptorIndex := 339, attributes := #[] }, { accessFlags := 8, nameIndex := 338, descriptorIndex := 339, attributes := #[] }, { accessFlags := 4120, nameIndex := 245, descriptorIndex := 246, attributes := #[] }])
  fields := #[{ name := "E", type := .double, accessFlags := 25, slot := 0, constantValue := 0 }, { name := "PI", type := .double, accessFlags := 25, slot := 1, constantValue := 0 }, { name := "TAU", type := .double, accessFlags := 25, slot := 2, constantValue := 0 }, { name := "DEGREES_TO_RADIANS", type := .double, accessFlags := 26, slot := 3, constantValue := 0 }, { name := "RADIANS_TO_DEGREES", type := .double, accessFlags := 26, slot := 4, constantValue := 0 }, { name := "negativeZeroFloatBits", type := .long, accessFlags := 26, slot := 5, constantValue := 0 }, { name := "negativeZeroDoubleBits", type := .long, accessFlags := 26, slot := 6, constantValue := 0 }, { name := "twoToTheDoubleScaleUp", type := .double, accessFlags := 8, slot := 7, constantValue := 0 }, { name := "twoToTheDoubleScaleDown", type := .double, accessFlags := 8, slot := 8, constantValue := 0 }, { name := "$assertionsDisabled", type := .boolean, accessFlags := 4120, slot := 9, constantValue := 0 }]
  methods := #[k2m0, k2m1]
  instanceTypes := #[]
  staticTypes := #[.double, .double, .double, .double, .double, .long, .long, .double, .double, .boolean]
  resolved := Array.replicate 460 none
  statics := none }

def pool3 : Array CpInfo := pool [(1, .methodref 2 3), (0, .class_ 4), (0, .nameAndType 5 6), (0, u "java/lang/Object"), (0, u "<init>"), (0, u "()V"), (0, .fieldref 8 9), (0, .class_ 10), (0, .nameAndType 11 12), (0, u "com/example/rila/rila/store/IntList"), (0, u "items"), (0, u "[I"), (0, .fieldref 8 14), (0, .nameAndType 15 16), (0, u "size"), (0, u "I"), (8, u "add"), (0, u "(I)V"), (2, u "(I)I"), (3, u "lowerBound")] 2

def k3c0 : Code := { maxStack := 2, maxLocals := 1, code := prog_9_method_1_code, exceptionTable := #[], attributes := #[] }
def k3m0 : Method := { name := "<init>", desc := "()V", sig := { parameters := [], returnType := none }, accessFlags := 0, code := some k3c0 }
def k3c1 : Code := { maxStack := 5, maxLocals := 2, code := prog_9_method_2_code, exceptionTable := #[], attributes := #[] }
def k3m1 : Method := { name := "add", desc := "(I)V", sig := { parameters := [.int], returnType := none }, accessFlags := 0, code := some k3c1 }
def k3c2 : Code := { maxStack := 2, maxLocals := 5, code := prog_9_method_6_code, exceptionTable := #[], attributes := #[] }
def k3m2 : Method := { name := "lowerBound", desc := "(I)I", sig := { parameters := [.int], returnType := some .int }, accessFlags := 0, code := some k3c2 }
/-- com/example/rila/rila/store/IntList -/
def k3 : Class := { plain "com/example/rila/rila/store/IntList" (some 0) with
  accessFlags := 48
  interfaces := #[]
  cf := some (fileOf pool3 8 #[] #[{ accessFlags := 0, nameIndex := 5, descriptorIndex := 6, attributes := #[] }, { accessFlags := 0, nameIndex := 25, descriptorIndex := 26, attributes := #[] }, { accessFlags := 0, nameIndex := 33, descriptorIndex := 29, attributes := #[] }] 48 2 #[] #[{ accessFlags := 2, nameIndex := 11, descriptorIndex := 12, attributes := #[] }, { accessFlags := 2, nameIndex := 15, descriptorIndex := 16, attributes := #[] }])
  fields := #[{ name := "items", type := (.array .int), accessFlags := 2, slot := 0, constantValue := 0 }, { name := "size", type := .int, accessFlags := 2, slot := 1, constantValue := 0 }]
  methods := #[k3m0, k3m1, k3m2]
  instanceTypes := #[(.array .int), .int]
  staticTypes := #[]
  resolved := Array.replicate 36 none
  statics := none }

def pool4 : Array CpInfo := pool [(1, u "java/lang/Cloneable"), (0, .class_ 1), (0, u "java/lang/Object"), (0, .class_ 3)] 3

/-- java/lang/Cloneable -/
def k4 : Class := { plain "java/lang/Cloneable" (some 0) with
  accessFlags := 1537
  interfaces := #[]
  cf := some (fileOf pool4 2 #[] #[] 1537 4 #[] #[])
  fields := #[]
  methods := #[]
  instanceTypes := #[]
  staticTypes := #[]
  resolved := Array.replicate 8 none
  statics := none }

def pool5 : Array CpInfo := pool [(1, u "java/io/Serializable"), (0, .class_ 1), (0, u "java/lang/Object"), (0, .class_ 3)] 3

/-- java/io/Serializable -/
def k5 : Class := { plain "java/io/Serializable" (some 0) with
  accessFlags := 1537
  interfaces := #[]
  cf := some (fileOf pool5 2 #[] #[] 1537 4 #[] #[])
  fields := #[]
  methods := #[]
  instanceTypes := #[]
  staticTypes := #[]
  resolved := Array.replicate 8 none
  statics := none }

/-- the primitive byte -/
def k6 : Class := { plain "byte" none with kind := .primitive 'B', accessFlags := 0x411 }
/-- [B -/
def k7 : Class := { plain "[B" (some 0) with kind := .array 6 .byte, interfaces := #[4, 5], accessFlags := 1041 }

/-- the primitive int -/
def k8 : Class := { plain "int" none with kind := .primitive 'I', accessFlags := 0x411 }
/-- [I -/
def k9 : Class := { plain "[I" (some 0) with kind := .array 8 .int, interfaces := #[4, 5], accessFlags := 1041 }

def heap : Heap := #[]
def classes : Array Class := #[k0, k1, k2, k3, k4, k5, k6, k7, k8, k9]
def interned : List (Array UInt16 × Addr) := []
def slotsUsed : Nat := 0
def theMethod : MethodId := ⟨1, 1⟩
def args0 : Array Value := #[.int 5, .int 5, .int 5, .int 5, .int 5, .int 5]
def aboutOver (below : List Frame) : State where
  vm := { classes := classes, interned := interned.toArray }
  heap := heap
  slotsUsed := slotsUsed
  threads := #[{ frames := .invoking theMethod args0 :: below }]
def below0 : List Frame := [.native { method := ⟨0, 0⟩, args := #[] }]
def about1 : State := aboutOver below0
def p0 : Program := .bare "" "" ""
def e0 : Env := launch0.env 0 0 0
theorem w_frames : about1.frames = Frame.invoking theMethod args0 :: below0 := rfl
set_option maxRecDepth 65536 in
theorem w_args : argsFit about1.vm theMethod args0 = true := by decide +kernel
set_option maxRecDepth 65536 in
theorem w_heap : heapFits about1 = true := by decide +kernel
set_option maxRecDepth 65536 in
theorem w_runnable : about1.curStatus? = some .runnable := by decide +kernel
set_option maxRecDepth 65536 in
theorem w_alone : about1.alone = true := by decide +kernel
set_option maxRecDepth 65536 in
theorem w_named : about1.methodNamed? x = some theMethod := by decide +kernel
set_option maxRecDepth 65536 in
theorem w_hears : about1.hears theMethod below0 = true := by decide +kernel
set_option maxRecDepth 65536 in
theorem w_ripe : about1.ripe theMethod args0 below0 = true := by decide +kernel
theorem w_running : about1.status = .running := rfl
set_option maxRecDepth 65536 in
theorem w_room : about1.hasRoom e0.platform room_1 = true :=
  launch0.hasRoom_least _ room_1 (by decide +kernel) (by decide +kernel) (by decide +kernel) (by decide +kernel) (by decide +kernel) (by decide +kernel)
theorem allAtoms_all (ts : List Jvm.Cond) (a : Array Jvm.Value) (st : Jvm.State) : (allAtoms ts).before a st = ts.all (fun c => c.before a st) := by
  induction ts with
  | nil => rfl
  | cons c t ih =>
    show (Jvm.Cond.and c (allAtoms t)).before a st = _
    rw [Jvm.Cond.before_and, ih, List.all_cons]
def words1 : List Jvm.Cond := Jvm.Cond.code x code maxLocals ret :: tables_1
/-- a 'code' word, met by the world's own term for the bytes: nothing is compared byte by byte -/
theorem code_word {y : MethodName} {bytes : ByteArray} {mx : Nat} {rt : Option FieldType} {a : Array Value} {s : State} {m : MethodId} {meth : Method} {c : Code} (h1 : s.methodNamed? y = some m) (h2 : s.vm.method? m = some meth) (h3 : meth.code = some c) (h4 : c.code = bytes)
    (h5 : (c.maxLocals == mx && c.exceptionTable.isEmpty && decide (c.maxStack ≤ mostOperands) && decide (meth.sig.returnType = rt) && !meth.locks && decide (parseMethodDescriptor y.desc = some meth.sig)) = true) : (Jvm.Cond.code y bytes mx rt).before a s = true := by
  simp only [Bool.and_eq_true, beq_iff_eq, Bool.not_eq_true', decide_eq_true_eq] at h5
  obtain ⟨⟨⟨⟨⟨g1, g2⟩, g3⟩, g4⟩, g5⟩, g6⟩ := h5
  simp [Cond.before, Cond.holds, Cond.value, h1, h2, h3, h4, g1, g2, g3, g4, g5, g6]
def isCode : Jvm.Cond → Bool
  | .code _ _ _ _ => true
  | _ => false
theorem all_split {L : List Jvm.Cond} {P : Jvm.Cond → Bool} (h1 : L.all (fun c => isCode c || P c) = true) (h2 : ∀ c ∈ L.filter isCode, P c = true) : L.all P = true := by
  refine List.all_eq_true.mpr fun c hc => ?_
  have h := List.all_eq_true.mp h1 c hc
  rcases Bool.eq_false_or_eq_true (isCode c) with hi | hi
  · exact h2 c (List.mem_filter.mpr ⟨hc, hi⟩)
  · simpa [hi] using h
set_option maxRecDepth 65536 in
theorem w_c0 : (Jvm.Cond.code x code maxLocals ret).before args0 about1 = true := code_word (m := ⟨1, 1⟩) (meth := k1m1) (c := k1c1) (by decide +kernel) rfl rfl rfl (by decide +kernel)
set_option maxRecDepth 65536 in
theorem w_c1 : (Jvm.Cond.code ({ cls := "java/lang/Math", name := "max", desc := "(II)I" } : Jvm.MethodName) jdk_29_method_65_code (2 : Nat) (Option.some Jvm.ClassFile.FieldType.int)).before args0 about1 = true := code_word (m := ⟨2, 1⟩) (meth := k2m1) (c := k2c1) (by decide +kernel) rfl rfl rfl (by decide +kernel)
set_option maxRecDepth 65536 in
theorem w_c2 : (Jvm.Cond.code ({ cls := "com/example/rila/rila/store/IntList", name := "<init>", desc := "()V" } : Jvm.MethodName) prog_9_method_1_code (1 : Nat) (Option.none : Option Jvm.ClassFile.FieldType)).before args0 about1 = true := code_word (m := ⟨3, 0⟩) (meth := k3m0) (c := k3c0) (by decide +kernel) rfl rfl rfl (by decide +kernel)
set_option maxRecDepth 65536 in
theorem w_c3 : (Jvm.Cond.code ({ cls := "java/lang/Object", name := "<init>", desc := "()V" } : Jvm.MethodName) object_method_1_code (1 : Nat) (Option.none : Option Jvm.ClassFile.FieldType)).before args0 about1 = true := code_word (m := ⟨0, 0⟩) (meth := k0m0) (c := k0c0) (by decide +kernel) rfl rfl rfl (by decide +kernel)
set_option maxRecDepth 65536 in
theorem w_c4 : (Jvm.Cond.code ({ cls := "com/example/rila/rila/store/IntListLowerBoundPinLaw", name := "below", desc := "(ZII)I" } : Jvm.MethodName) method_3_code (3 : Nat) (Option.some Jvm.ClassFile.FieldType.int)).before args0 about1 = true := code_word (m := ⟨1, 2⟩) (meth := k1m2) (c := k1c2) (by decide +kernel) rfl rfl rfl (by decide +kernel)
set_option maxRecDepth 65536 in
theorem w_c5 : (Jvm.Cond.code ({ cls := "com/example/rila/rila/store/IntList", name := "lowerBound", desc := "(I)I" } : Jvm.MethodName) prog_9_method_6_code (5 : Nat) (Option.some Jvm.ClassFile.FieldType.int)).before args0 about1 = true := code_word (m := ⟨3, 2⟩) (meth := k3m2) (c := k3c2) (by decide +kernel) rfl rfl rfl (by decide +kernel)
set_option maxRecDepth 65536 in
theorem w_c6 : (Jvm.Cond.code ({ cls := "com/example/rila/rila/store/IntList", name := "add", desc := "(I)V" } : Jvm.MethodName) prog_9_method_2_code (2 : Nat) (Option.none : Option Jvm.ClassFile.FieldType)).before args0 about1 = true := code_word (m := ⟨3, 1⟩) (meth := k3m1) (c := k3c1) (by decide +kernel) rfl rfl rfl (by decide +kernel)
def codes1 : List Jvm.Cond := [Jvm.Cond.code x code maxLocals ret, Jvm.Cond.code ({ cls := "java/lang/Math", name := "max", desc := "(II)I" } : Jvm.MethodName) jdk_29_method_65_code (2 : Nat) (Option.some Jvm.ClassFile.FieldType.int), Jvm.Cond.code ({ cls := "com/example/rila/rila/store/IntList", name := "<init>", desc := "()V" } : Jvm.MethodName) prog_9_method_1_code (1 : Nat) (Option.none : Option Jvm.ClassFile.FieldType), Jvm.Cond.code ({ cls := "java/lang/Object", name := "<init>", desc := "()V" } : Jvm.MethodName) object_method_1_code (1 : Nat) (Option.none : Option Jvm.ClassFile.FieldType), Jvm.Cond.code ({ cls := "com/example/rila/rila/store/IntListLowerBoundPinLaw", name := "below", desc := "(ZII)I" } : Jvm.MethodName) method_3_code (3 : Nat) (Option.some Jvm.ClassFile.FieldType.int), Jvm.Cond.code ({ cls := "com/example/rila/rila/store/IntList", name := "lowerBound", desc := "(I)I" } : Jvm.MethodName) prog_9_method_6_code (5 : Nat) (Option.some Jvm.ClassFile.FieldType.int), Jvm.Cond.code ({ cls := "com/example/rila/rila/store/IntList", name := "add", desc := "(I)V" } : Jvm.MethodName) prog_9_method_2_code (2 : Nat) (Option.none : Option Jvm.ClassFile.FieldType)]
set_option maxRecDepth 65536 in
theorem codes_eq : words1.filter isCode = codes1 := rfl
theorem w_codes : ∀ c ∈ words1.filter isCode, c.before args0 about1 = true := by
  rw [codes_eq]
  intro c hc
  simp only [codes1, List.mem_cons, List.not_mem_nil, or_false] at hc
  rcases hc with rfl | rfl | rfl | rfl | rfl | rfl | rfl
  · exact w_c0
  · exact w_c1
  · exact w_c2
  · exact w_c3
  · exact w_c4
  · exact w_c5
  · exact w_c6
set_option maxRecDepth 65536 in
theorem w_t1 : (words1.take 24).all (fun c => isCode c || c.before args0 about1) = true := by decide +kernel
set_option maxRecDepth 65536 in
theorem w_t2 : (words1.drop 24).all (fun c => isCode c || c.before args0 about1) = true := by decide +kernel
theorem w_tables : (allAtoms (Jvm.Cond.code x code maxLocals ret :: tables_1)).before args0 about1 = true := by
  rw [allAtoms_all]
  show words1.all (fun c => c.before args0 about1) = true
  refine all_split ?_ w_codes
  rw [← List.take_append_drop 24 words1, List.all_append, w_t1, w_t2]
  rfl
set_option maxRecDepth 65536 in
theorem w_case : (Jvm.Cond.and given_1 narrow_1).before args0 about1 = true := by decide +kernel
theorem w_applies : (headSpec (Jvm.Cond.code x code maxLocals ret :: tables_1) room_1).applies x e0.platform about1 = true :=
  (Spec.applies_iff w_frames).mpr ⟨w_running, w_runnable, w_alone, w_named, w_hears, w_ripe, w_room, w_tables⟩
theorem atStart : AtStart classFile x code maxLocals ret World_1 tables_1 room_1 Calls_1 rest_1 Pre_1 launch0 p0 e0 about1 theMethod args0 below0 :=
  ⟨lists_1, trivial, launch0.admits_env _ _ _, launch0.least_env, fairChoices_fair.cas, fairChoices_fair.clock, w_frames, w_args, w_heap, w_applies, trivial, trivial, w_case⟩
end start1
theorem witness_1 : WitnessClaimed_1 := ⟨start1.p0, start1.e0, start1.about1, start1.theMethod, start1.args0, start1.below0, start1.atStart⟩
end Jvm.Pilot.@@N@@
