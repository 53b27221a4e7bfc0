import JvmDerived
import JvmDerived.Pilot.@@N@@Statement
import JvmDerived.Pilot.@@N@@Code
set_option linter.unusedVariables false
set_option linter.unusedSimpArgs false
namespace Jvm.OwnW
open Sem ClassFile Op Lib Jvm.Free Jvm.Stand Jvm.LawKit Jvm.RoadKit
/-- where a walk stands: the method's facts, the heap, nothing old written -/
def Pos (Z : State) (y : MethodName) (bytes : ByteArray) (maxL : Nat) (ret : Option FieldType) (n0 : Nat) (p : Program) (l : Launch) (e : Env) (R : Room) (s : State) (m : MethodId) (args : Array Value) (below : List Frame) (meth : Method) (c : Code) (T : State) (h : Heap) (cells slots : Nat) : Prop :=
  (p.tables.exec = Jvm.exec ∧ c.code = bytes ∧ c.maxLocals = maxL ∧ s.vm.findClass y.cls = some m.cls ∧ meth.name = y.name ∧ meth.sig.returnType = ret ∧ meth.locks = false ∧ Z.Warmed39 s.vm ∧ n0 ≤ s.heap.size) ∧
  ∃ locs, Stand p l e R s m args below meth c T locs cells slots ∧ T.heap = h ∧ Fr n0 locs
/-- the run from t comes to a return of which Q holds -/
def Goes (p : Program) (e : Env) (below : List Frame) (s : State) (n0 kc ks : Nat) (Q : Option Value → Heap → Prop) (t : State) : Prop :=
  ∃ s₂ o, Steps p.tables e below t s₂ ∧ s₂.status = .running ∧ Ended s₂ below o ∧ ∃ v L, o = .returned v ∧ (Q v s₂.heap ∧ Fr n0 L) ∧ FrameEnd s o s₂ L kc ks
/-- a method's contract: called with these arguments at the heap h0 it returns, and Q holds of the value and the heap -/
def Con (l : Launch) (Z : State) (y : MethodName) (bytes : ByteArray) (maxL : Nat) (ret : Option FieldType) (rm : Room) (n0 : Nat) (as : Array Value) (h0 : Heap) (Q : Option Value → Heap → Prop) : Prop :=
  ∀ ws : List Jvm.Cond, MetFree l y (head1 (Jvm.Cond.code y bytes maxL ret :: ws) rm) (fun a U => a = as ∧ Z.Warmed39 U.vm ∧ U.heap = h0) (fun _ _ _ _ _ => True) (fun _ U o U' => ∃ v L, o = .returned v ∧ (Q v U'.heap ∧ Fr n0 L) ∧ FrameEnd U o U' L rm.cells rm.slots)
section Base
variable {Z : State} {y : MethodName} {bytes : ByteArray} {maxL : Nat} {ret : Option FieldType} {n0 : Nat} {p : Program} {l : Launch} {e : Env} {R : Room} {s : State} {m : MethodId} {args : Array Value} {below : List Frame} {meth : Method} {c : Code} {T : State} {h : Heap} {cells slots kc ks : Nat} {Q : Option Value → Heap → Prop} {pc pc' pcY pcN : Nat} {L L' : Array Slot} {S : List Value} {a0 : Array Value}
theorem Goes.via {t t' : State} (k : ∀ target, Steps p.tables e below t' target → Steps p.tables e below t target) (G : Goes p e below s n0 kc ks Q t') : Goes p e below s n0 kc ks Q t := by
  obtain ⟨s₂, o, h1, r⟩ := G
  exact ⟨s₂, o, k _ h1, r⟩
theorem Goes.mono {Q' : Option Value → Heap → Prop} {t : State} (k : ∀ v h, Q' v h → Q v h) (G : Goes p e below s n0 kc ks Q' t) : Goes p e below s n0 kc ks Q t := by
  obtain ⟨s₂, o, h1, h2, h3, v, L, h4, ⟨h5, h6⟩, h7⟩ := G
  exact ⟨s₂, o, h1, h2, h3, v, L, h4, ⟨k _ _ h5, h6⟩, h7⟩
theorem Con.mono {rm : Room} {as : Array Value} {h0 : Heap} {Q' : Option Value → Heap → Prop} (K : Con l Z y bytes maxL ret rm n0 as h0 Q') (k : ∀ v h, Q' v h → Q v h) : Con l Z y bytes maxL ret rm n0 as h0 Q := by
  intro ws p e ha hc hk s m args below hf happ hP hK
  obtain ⟨n, o, h1, h2, h3, v, L, h4, ⟨h5, h6⟩, h7⟩ := K ws p e ha hc hk s m args below hf happ hP hK
  exact ⟨n, o, h1, h2, h3, v, L, h4, ⟨k _ _ h5, h6⟩, h7⟩
theorem Con.body {rm : Room} {as : Array Value} {h0 : Heap} {Ls : Array Slot} (pn : plainFor y = true) (hn0 : n0 ≤ h0.size) (ef : ∀ m, entryFrame m as maxL = mkF m 0 Ls [])
    (H : ∀ p e s m below meth c T, Pos Z y bytes maxL ret n0 p l e rm s m as below meth c T h0 0 0 → Goes p e below s n0 rm.cells rm.slots Q (T.setTop (mkF m 0 Ls []))) : Con l Z y bytes maxL ret rm n0 as h0 Q := by
  intro ws
  refine MetFree.of_bodySF pn hisR ?_
  intro p e s m args below meth c s₁ Bd hml0 hP hK
  obtain ⟨rfl, hZ, hh⟩ := hP
  have X0 : Stand p l e rm s m args below meth c s₁ [] 0 0 := Stand.of_body Bd
  have e0 : s₁.heap = h0 := by rw [← hh, Bd.state]; rfl
  rw [ef]
  exact H p e s m below meth c s₁ ⟨⟨Bd.exec, Bd.bytes, hml0, findClass_of_methodNamed Bd.named, (name_of_methodNamed Bd.named Bd.method).1, Bd.returns, Bd.notSynchronized, hZ, by rw [hh]; exact hn0⟩, [], X0, e0, Fr.nil n0⟩
theorem Pos.sz (P : Pos Z y bytes maxL ret n0 p l e R s m args below meth c T h cells slots) : n0 ≤ h.size := by
  obtain ⟨⟨-, -, -, -, -, -, -, -, hn0⟩, locs, X, rfl, -⟩ := P
  exact Nat.le_trans hn0 X.same.2.1
end Base
namespace G
section Plain
variable {Z : State} {y : MethodName} {bytes : ByteArray} {maxL : Nat} {ret : Option FieldType} {n0 : Nat} {p : Program} {l : Launch} {e : Env} {R : Room} {s : State} {m : MethodId} {args : Array Value} {below : List Frame} {meth : Method} {c : Code} {T : State} {h : Heap} {cells slots kc ks : Nat} {Q : Option Value → Heap → Prop} {pc pc' pcY pcN : Nat} {L L' : Array Slot} {S : List Value} {a0 : Array Value}
theorem iload (P : Pos Z y bytes maxL ret n0 p l e R s m args below meth c T h cells slots) {k : Nat} {v : Int32} (hd : decode bytes pc = .ok (.iload k, 2)) (hl : L[k]? = some (.val (.int v))) (hp : pc + 2 = pc') (k : Goes p e below s n0 kc ks Q (T.setTop (mkF m pc' L (.int v :: S)))) : Goes p e below s n0 kc ks Q (T.setTop (mkF m pc L S)) := by
  obtain ⟨⟨hx, rfl, rfl, hown, hnm, rfl, hlk, hZ, hn0⟩, locs, X, rfl, N⟩ := P
  subst hp
  exact k.via fun t q => XS.iload X.here hx rfl hd hl q
theorem iloadN (P : Pos Z y bytes maxL ret n0 p l e R s m args below meth c T h cells slots) {k : Fin 4} {v : Int32} (hd : decode bytes pc = .ok (.iload_n k, 1)) (hl : L[k.val]? = some (.val (.int v))) (hp : pc + 1 = pc') (k : Goes p e below s n0 kc ks Q (T.setTop (mkF m pc' L (.int v :: S)))) : Goes p e below s n0 kc ks Q (T.setTop (mkF m pc L S)) := by
  obtain ⟨⟨hx, rfl, rfl, hown, hnm, rfl, hlk, hZ, hn0⟩, locs, X, rfl, N⟩ := P
  subst hp
  exact k.via fun t q => XS.iloadN X.here hx rfl hd hl q
theorem lload (P : Pos Z y bytes maxL ret n0 p l e R s m args below meth c T h cells slots) {k : Nat} {v : Int64} (hd : decode bytes pc = .ok (.lload k, 2)) (hl : L[k]? = some (.val (.long v))) (hp : pc + 2 = pc') (k : Goes p e below s n0 kc ks Q (T.setTop (mkF m pc' L (.long v :: S)))) : Goes p e below s n0 kc ks Q (T.setTop (mkF m pc L S)) := by
  obtain ⟨⟨hx, rfl, rfl, hown, hnm, rfl, hlk, hZ, hn0⟩, locs, X, rfl, N⟩ := P
  subst hp
  exact k.via fun t q => XS.lload X.here hx rfl hd hl q
theorem lloadN (P : Pos Z y bytes maxL ret n0 p l e R s m args below meth c T h cells slots) {k : Fin 4} {v : Int64} (hd : decode bytes pc = .ok (.lload_n k, 1)) (hl : L[k.val]? = some (.val (.long v))) (hp : pc + 1 = pc') (k : Goes p e below s n0 kc ks Q (T.setTop (mkF m pc' L (.long v :: S)))) : Goes p e below s n0 kc ks Q (T.setTop (mkF m pc L S)) := by
  obtain ⟨⟨hx, rfl, rfl, hown, hnm, rfl, hlk, hZ, hn0⟩, locs, X, rfl, N⟩ := P
  subst hp
  exact k.via fun t q => XS.lloadN X.here hx rfl hd hl q
theorem aload (P : Pos Z y bytes maxL ret n0 p l e R s m args below meth c T h cells slots) {k : Nat} {v : Value} (hd : decode bytes pc = .ok (.aload k, 2)) (hl : L[k]? = some (.val v)) (hv : v.isRef = true) (hp : pc + 2 = pc') (k : Goes p e below s n0 kc ks Q (T.setTop (mkF m pc' L (v :: S)))) : Goes p e below s n0 kc ks Q (T.setTop (mkF m pc L S)) := by
  obtain ⟨⟨hx, rfl, rfl, hown, hnm, rfl, hlk, hZ, hn0⟩, locs, X, rfl, N⟩ := P
  subst hp
  exact k.via fun t q => XS.aload X.here hx rfl hd hl hv q
theorem aloadN (P : Pos Z y bytes maxL ret n0 p l e R s m args below meth c T h cells slots) {k : Fin 4} {v : Value} (hd : decode bytes pc = .ok (.aload_n k, 1)) (hl : L[k.val]? = some (.val v)) (hv : v.isRef = true) (hp : pc + 1 = pc') (k : Goes p e below s n0 kc ks Q (T.setTop (mkF m pc' L (v :: S)))) : Goes p e below s n0 kc ks Q (T.setTop (mkF m pc L S)) := by
  obtain ⟨⟨hx, rfl, rfl, hown, hnm, rfl, hlk, hZ, hn0⟩, locs, X, rfl, N⟩ := P
  subst hp
  exact k.via fun t q => XS.aloadN X.here hx rfl hd hl hv q
theorem istore (P : Pos Z y bytes maxL ret n0 p l e R s m args below meth c T h cells slots) {k : Nat} {v v' : Int32} (hd : decode bytes pc = .ok (.istore k, 2)) (hv : v = v') (hl : storeLocals L k (.int v') = some L') (hp : pc + 2 = pc') (k : Goes p e below s n0 kc ks Q (T.setTop (mkF m pc' L' S))) : Goes p e below s n0 kc ks Q (T.setTop (mkF m pc L (.int v :: S))) := by
  obtain ⟨⟨hx, rfl, rfl, hown, hnm, rfl, hlk, hZ, hn0⟩, locs, X, rfl, N⟩ := P
  subst hp hv
  exact k.via fun t q => XS.istore X.here hx rfl hd rfl hl q
theorem istoreN (P : Pos Z y bytes maxL ret n0 p l e R s m args below meth c T h cells slots) {k : Fin 4} {v v' : Int32} (hd : decode bytes pc = .ok (.istore_n k, 1)) (hv : v = v') (hl : storeLocals L k.val (.int v') = some L') (hp : pc + 1 = pc') (k : Goes p e below s n0 kc ks Q (T.setTop (mkF m pc' L' S))) : Goes p e below s n0 kc ks Q (T.setTop (mkF m pc L (.int v :: S))) := by
  obtain ⟨⟨hx, rfl, rfl, hown, hnm, rfl, hlk, hZ, hn0⟩, locs, X, rfl, N⟩ := P
  subst hp hv
  exact k.via fun t q => XS.istoreN X.here hx rfl hd rfl hl q
theorem lstore (P : Pos Z y bytes maxL ret n0 p l e R s m args below meth c T h cells slots) {k : Nat} {v v' : Int64} (hd : decode bytes pc = .ok (.lstore k, 2)) (hv : v = v') (hl : storeLocals L k (.long v') = some L') (hp : pc + 2 = pc') (k : Goes p e below s n0 kc ks Q (T.setTop (mkF m pc' L' S))) : Goes p e below s n0 kc ks Q (T.setTop (mkF m pc L (.long v :: S))) := by
  obtain ⟨⟨hx, rfl, rfl, hown, hnm, rfl, hlk, hZ, hn0⟩, locs, X, rfl, N⟩ := P
  subst hp hv
  exact k.via fun t q => XS.lstore X.here hx rfl hd rfl hl q
theorem lstoreN (P : Pos Z y bytes maxL ret n0 p l e R s m args below meth c T h cells slots) {k : Fin 4} {v v' : Int64} (hd : decode bytes pc = .ok (.lstore_n k, 1)) (hv : v = v') (hl : storeLocals L k.val (.long v') = some L') (hp : pc + 1 = pc') (k : Goes p e below s n0 kc ks Q (T.setTop (mkF m pc' L' S))) : Goes p e below s n0 kc ks Q (T.setTop (mkF m pc L (.long v :: S))) := by
  obtain ⟨⟨hx, rfl, rfl, hown, hnm, rfl, hlk, hZ, hn0⟩, locs, X, rfl, N⟩ := P
  subst hp hv
  exact k.via fun t q => XS.lstoreN X.here hx rfl hd rfl hl q
theorem astore (P : Pos Z y bytes maxL ret n0 p l e R s m args below meth c T h cells slots) {k : Nat} {v : Value} (hd : decode bytes pc = .ok (.astore k, 2)) (hv : v.isRef = true) (hl : storeLocals L k v = some L') (hp : pc + 2 = pc') (k : Goes p e below s n0 kc ks Q (T.setTop (mkF m pc' L' S))) : Goes p e below s n0 kc ks Q (T.setTop (mkF m pc L (v :: S))) := by
  obtain ⟨⟨hx, rfl, rfl, hown, hnm, rfl, hlk, hZ, hn0⟩, locs, X, rfl, N⟩ := P
  subst hp
  exact k.via fun t q => XS.astore X.here hx rfl hd rfl hv hl q
theorem astoreN (P : Pos Z y bytes maxL ret n0 p l e R s m args below meth c T h cells slots) {k : Fin 4} {v : Value} (hd : decode bytes pc = .ok (.astore_n k, 1)) (hv : v.isRef = true) (hl : storeLocals L k.val v = some L') (hp : pc + 1 = pc') (k : Goes p e below s n0 kc ks Q (T.setTop (mkF m pc' L' S))) : Goes p e below s n0 kc ks Q (T.setTop (mkF m pc L (v :: S))) := by
  obtain ⟨⟨hx, rfl, rfl, hown, hnm, rfl, hlk, hZ, hn0⟩, locs, X, rfl, N⟩ := P
  subst hp
  exact k.via fun t q => XS.astoreN X.here hx rfl hd rfl hv hl q
theorem iconst (P : Pos Z y bytes maxL ret n0 p l e R s m args below meth c T h cells slots) {i : Int} {v : Int32} (hd : decode bytes pc = .ok (.iconst i, 1)) (hv : Int32.ofInt i = v) (hp : pc + 1 = pc') (k : Goes p e below s n0 kc ks Q (T.setTop (mkF m pc' L (.int v :: S)))) : Goes p e below s n0 kc ks Q (T.setTop (mkF m pc L S)) := by
  obtain ⟨⟨hx, rfl, rfl, hown, hnm, rfl, hlk, hZ, hn0⟩, locs, X, rfl, N⟩ := P
  subst hp hv
  exact k.via fun t q => XS.iconst X.here hx rfl hd q
theorem bipush (P : Pos Z y bytes maxL ret n0 p l e R s m args below meth c T h cells slots) {i : Int} {v : Int32} (hd : decode bytes pc = .ok (.bipush i, 2)) (hv : (Int8.ofInt i).toInt32 = v) (hp : pc + 2 = pc') (k : Goes p e below s n0 kc ks Q (T.setTop (mkF m pc' L (.int v :: S)))) : Goes p e below s n0 kc ks Q (T.setTop (mkF m pc L S)) := by
  obtain ⟨⟨hx, rfl, rfl, hown, hnm, rfl, hlk, hZ, hn0⟩, locs, X, rfl, N⟩ := P
  subst hp hv
  exact k.via fun t q => XS.bipush X.here hx rfl hd q
theorem sipush (P : Pos Z y bytes maxL ret n0 p l e R s m args below meth c T h cells slots) {i : Int} {v : Int32} (hd : decode bytes pc = .ok (.sipush i, 3)) (hv : (Int16.ofInt i).toInt32 = v) (hp : pc + 3 = pc') (k : Goes p e below s n0 kc ks Q (T.setTop (mkF m pc' L (.int v :: S)))) : Goes p e below s n0 kc ks Q (T.setTop (mkF m pc L S)) := by
  obtain ⟨⟨hx, rfl, rfl, hown, hnm, rfl, hlk, hZ, hn0⟩, locs, X, rfl, N⟩ := P
  subst hp hv
  exact k.via fun t q => XS.sipush X.here hx rfl hd q
theorem lconst (P : Pos Z y bytes maxL ret n0 p l e R s m args below meth c T h cells slots) {i : Fin 2} {v : Int64} (hd : decode bytes pc = .ok (.lconst i, 1)) (hv : Int64.ofNat i = v) (hp : pc + 1 = pc') (k : Goes p e below s n0 kc ks Q (T.setTop (mkF m pc' L (.long v :: S)))) : Goes p e below s n0 kc ks Q (T.setTop (mkF m pc L S)) := by
  obtain ⟨⟨hx, rfl, rfl, hown, hnm, rfl, hlk, hZ, hn0⟩, locs, X, rfl, N⟩ := P
  subst hp hv
  exact k.via fun t q => XS.lconst X.here hx rfl hd q
theorem aconstNull (P : Pos Z y bytes maxL ret n0 p l e R s m args below meth c T h cells slots) (hd : decode bytes pc = .ok (.aconst_null, 1)) (hp : pc + 1 = pc') (k : Goes p e below s n0 kc ks Q (T.setTop (mkF m pc' L (.null :: S)))) : Goes p e below s n0 kc ks Q (T.setTop (mkF m pc L S)) := by
  obtain ⟨⟨hx, rfl, rfl, hown, hnm, rfl, hlk, hZ, hn0⟩, locs, X, rfl, N⟩ := P
  subst hp
  exact k.via fun t q => XS.aconstNull X.here hx rfl hd q
theorem iadd (P : Pos Z y bytes maxL ret n0 p l e R s m args below meth c T h cells slots) {x z : Int32} (hd : decode bytes pc = .ok (.iadd, 1)) (hp : pc + 1 = pc') (k : Goes p e below s n0 kc ks Q (T.setTop (mkF m pc' L (.int (x + z) :: S)))) : Goes p e below s n0 kc ks Q (T.setTop (mkF m pc L (.int z :: .int x :: S))) := by
  obtain ⟨⟨hx, rfl, rfl, hown, hnm, rfl, hlk, hZ, hn0⟩, locs, X, rfl, N⟩ := P
  subst hp
  exact k.via fun t q => XS.iadd X.here hx rfl hd rfl q
theorem isub (P : Pos Z y bytes maxL ret n0 p l e R s m args below meth c T h cells slots) {x z : Int32} (hd : decode bytes pc = .ok (.isub, 1)) (hp : pc + 1 = pc') (k : Goes p e below s n0 kc ks Q (T.setTop (mkF m pc' L (.int (x - z) :: S)))) : Goes p e below s n0 kc ks Q (T.setTop (mkF m pc L (.int z :: .int x :: S))) := by
  obtain ⟨⟨hx, rfl, rfl, hown, hnm, rfl, hlk, hZ, hn0⟩, locs, X, rfl, N⟩ := P
  subst hp
  exact k.via fun t q => XS.isub X.here hx rfl hd rfl q
theorem imul (P : Pos Z y bytes maxL ret n0 p l e R s m args below meth c T h cells slots) {x z : Int32} (hd : decode bytes pc = .ok (.imul, 1)) (hp : pc + 1 = pc') (k : Goes p e below s n0 kc ks Q (T.setTop (mkF m pc' L (.int (x * z) :: S)))) : Goes p e below s n0 kc ks Q (T.setTop (mkF m pc L (.int z :: .int x :: S))) := by
  obtain ⟨⟨hx, rfl, rfl, hown, hnm, rfl, hlk, hZ, hn0⟩, locs, X, rfl, N⟩ := P
  subst hp
  exact k.via fun t q => XS.imul X.here hx rfl hd rfl q
theorem iand (P : Pos Z y bytes maxL ret n0 p l e R s m args below meth c T h cells slots) {x z : Int32} (hd : decode bytes pc = .ok (.iand, 1)) (hp : pc + 1 = pc') (k : Goes p e below s n0 kc ks Q (T.setTop (mkF m pc' L (.int (x &&& z) :: S)))) : Goes p e below s n0 kc ks Q (T.setTop (mkF m pc L (.int z :: .int x :: S))) := by
  obtain ⟨⟨hx, rfl, rfl, hown, hnm, rfl, hlk, hZ, hn0⟩, locs, X, rfl, N⟩ := P
  subst hp
  exact k.via fun t q => XS.iand X.here hx rfl hd rfl q
theorem ior (P : Pos Z y bytes maxL ret n0 p l e R s m args below meth c T h cells slots) {x z : Int32} (hd : decode bytes pc = .ok (.ior, 1)) (hp : pc + 1 = pc') (k : Goes p e below s n0 kc ks Q (T.setTop (mkF m pc' L (.int (x ||| z) :: S)))) : Goes p e below s n0 kc ks Q (T.setTop (mkF m pc L (.int z :: .int x :: S))) := by
  obtain ⟨⟨hx, rfl, rfl, hown, hnm, rfl, hlk, hZ, hn0⟩, locs, X, rfl, N⟩ := P
  subst hp
  exact k.via fun t q => XS.ior X.here hx rfl hd rfl q
theorem ixor (P : Pos Z y bytes maxL ret n0 p l e R s m args below meth c T h cells slots) {x z : Int32} (hd : decode bytes pc = .ok (.ixor, 1)) (hp : pc + 1 = pc') (k : Goes p e below s n0 kc ks Q (T.setTop (mkF m pc' L (.int (x ^^^ z) :: S)))) : Goes p e below s n0 kc ks Q (T.setTop (mkF m pc L (.int z :: .int x :: S))) := by
  obtain ⟨⟨hx, rfl, rfl, hown, hnm, rfl, hlk, hZ, hn0⟩, locs, X, rfl, N⟩ := P
  subst hp
  exact k.via fun t q => XS.ixor X.here hx rfl hd rfl q
theorem ishl (P : Pos Z y bytes maxL ret n0 p l e R s m args below meth c T h cells slots) {x z : Int32} (hd : decode bytes pc = .ok (.ishl, 1)) (hp : pc + 1 = pc') (k : Goes p e below s n0 kc ks Q (T.setTop (mkF m pc' L (.int (x <<< (z &&& 31)) :: S)))) : Goes p e below s n0 kc ks Q (T.setTop (mkF m pc L (.int z :: .int x :: S))) := by
  obtain ⟨⟨hx, rfl, rfl, hown, hnm, rfl, hlk, hZ, hn0⟩, locs, X, rfl, N⟩ := P
  subst hp
  exact k.via fun t q => XS.ishl X.here hx rfl hd rfl q
theorem ishr (P : Pos Z y bytes maxL ret n0 p l e R s m args below meth c T h cells slots) {x z : Int32} (hd : decode bytes pc = .ok (.ishr, 1)) (hp : pc + 1 = pc') (k : Goes p e below s n0 kc ks Q (T.setTop (mkF m pc' L (.int (x >>> (z &&& 31)) :: S)))) : Goes p e below s n0 kc ks Q (T.setTop (mkF m pc L (.int z :: .int x :: S))) := by
  obtain ⟨⟨hx, rfl, rfl, hown, hnm, rfl, hlk, hZ, hn0⟩, locs, X, rfl, N⟩ := P
  subst hp
  exact k.via fun t q => XS.ishr X.here hx rfl hd rfl q
theorem iushr (P : Pos Z y bytes maxL ret n0 p l e R s m args below meth c T h cells slots) {x z : Int32} (hd : decode bytes pc = .ok (.iushr, 1)) (hp : pc + 1 = pc') (k : Goes p e below s n0 kc ks Q (T.setTop (mkF m pc' L (.int ((x.toUInt32 >>> (z &&& 31).toUInt32).toInt32) :: S)))) : Goes p e below s n0 kc ks Q (T.setTop (mkF m pc L (.int z :: .int x :: S))) := by
  obtain ⟨⟨hx, rfl, rfl, hown, hnm, rfl, hlk, hZ, hn0⟩, locs, X, rfl, N⟩ := P
  subst hp
  exact k.via fun t q => XS.iushr X.here hx rfl hd rfl q
theorem ladd (P : Pos Z y bytes maxL ret n0 p l e R s m args below meth c T h cells slots) {x z : Int64} (hd : decode bytes pc = .ok (.ladd, 1)) (hp : pc + 1 = pc') (k : Goes p e below s n0 kc ks Q (T.setTop (mkF m pc' L (.long (x + z) :: S)))) : Goes p e below s n0 kc ks Q (T.setTop (mkF m pc L (.long z :: .long x :: S))) := by
  obtain ⟨⟨hx, rfl, rfl, hown, hnm, rfl, hlk, hZ, hn0⟩, locs, X, rfl, N⟩ := P
  subst hp
  exact k.via fun t q => XS.ladd X.here hx rfl hd rfl q
theorem lsub (P : Pos Z y bytes maxL ret n0 p l e R s m args below meth c T h cells slots) {x z : Int64} (hd : decode bytes pc = .ok (.lsub, 1)) (hp : pc + 1 = pc') (k : Goes p e below s n0 kc ks Q (T.setTop (mkF m pc' L (.long (x - z) :: S)))) : Goes p e below s n0 kc ks Q (T.setTop (mkF m pc L (.long z :: .long x :: S))) := by
  obtain ⟨⟨hx, rfl, rfl, hown, hnm, rfl, hlk, hZ, hn0⟩, locs, X, rfl, N⟩ := P
  subst hp
  exact k.via fun t q => XS.lsub X.here hx rfl hd rfl q
theorem lmul (P : Pos Z y bytes maxL ret n0 p l e R s m args below meth c T h cells slots) {x z : Int64} (hd : decode bytes pc = .ok (.lmul, 1)) (hp : pc + 1 = pc') (k : Goes p e below s n0 kc ks Q (T.setTop (mkF m pc' L (.long (x * z) :: S)))) : Goes p e below s n0 kc ks Q (T.setTop (mkF m pc L (.long z :: .long x :: S))) := by
  obtain ⟨⟨hx, rfl, rfl, hown, hnm, rfl, hlk, hZ, hn0⟩, locs, X, rfl, N⟩ := P
  subst hp
  exact k.via fun t q => XS.lmul X.here hx rfl hd rfl q
theorem land (P : Pos Z y bytes maxL ret n0 p l e R s m args below meth c T h cells slots) {x z : Int64} (hd : decode bytes pc = .ok (.land, 1)) (hp : pc + 1 = pc') (k : Goes p e below s n0 kc ks Q (T.setTop (mkF m pc' L (.long (x &&& z) :: S)))) : Goes p e below s n0 kc ks Q (T.setTop (mkF m pc L (.long z :: .long x :: S))) := by
  obtain ⟨⟨hx, rfl, rfl, hown, hnm, rfl, hlk, hZ, hn0⟩, locs, X, rfl, N⟩ := P
  subst hp
  exact k.via fun t q => XS.land X.here hx rfl hd rfl q
theorem lor (P : Pos Z y bytes maxL ret n0 p l e R s m args below meth c T h cells slots) {x z : Int64} (hd : decode bytes pc = .ok (.lor, 1)) (hp : pc + 1 = pc') (k : Goes p e below s n0 kc ks Q (T.setTop (mkF m pc' L (.long (x ||| z) :: S)))) : Goes p e below s n0 kc ks Q (T.setTop (mkF m pc L (.long z :: .long x :: S))) := by
  obtain ⟨⟨hx, rfl, rfl, hown, hnm, rfl, hlk, hZ, hn0⟩, locs, X, rfl, N⟩ := P
  subst hp
  exact k.via fun t q => XS.lor X.here hx rfl hd rfl q
theorem lxor (P : Pos Z y bytes maxL ret n0 p l e R s m args below meth c T h cells slots) {x z : Int64} (hd : decode bytes pc = .ok (.lxor, 1)) (hp : pc + 1 = pc') (k : Goes p e below s n0 kc ks Q (T.setTop (mkF m pc' L (.long (x ^^^ z) :: S)))) : Goes p e below s n0 kc ks Q (T.setTop (mkF m pc L (.long z :: .long x :: S))) := by
  obtain ⟨⟨hx, rfl, rfl, hown, hnm, rfl, hlk, hZ, hn0⟩, locs, X, rfl, N⟩ := P
  subst hp
  exact k.via fun t q => XS.lxor X.here hx rfl hd rfl q
theorem lshl (P : Pos Z y bytes maxL ret n0 p l e R s m args below meth c T h cells slots) {x : Int64} {z : Int32} (hd : decode bytes pc = .ok (.lshl, 1)) (hp : pc + 1 = pc') (k : Goes p e below s n0 kc ks Q (T.setTop (mkF m pc' L (.long (x <<< (z &&& 0x3f).toInt64) :: S)))) : Goes p e below s n0 kc ks Q (T.setTop (mkF m pc L (.int z :: .long x :: S))) := by
  obtain ⟨⟨hx, rfl, rfl, hown, hnm, rfl, hlk, hZ, hn0⟩, locs, X, rfl, N⟩ := P
  subst hp
  exact k.via fun t q => XS.lshl X.here hx rfl hd rfl q
theorem lshr (P : Pos Z y bytes maxL ret n0 p l e R s m args below meth c T h cells slots) {x : Int64} {z : Int32} (hd : decode bytes pc = .ok (.lshr, 1)) (hp : pc + 1 = pc') (k : Goes p e below s n0 kc ks Q (T.setTop (mkF m pc' L (.long (x >>> (z &&& 0x3f).toInt64) :: S)))) : Goes p e below s n0 kc ks Q (T.setTop (mkF m pc L (.int z :: .long x :: S))) := by
  obtain ⟨⟨hx, rfl, rfl, hown, hnm, rfl, hlk, hZ, hn0⟩, locs, X, rfl, N⟩ := P
  subst hp
  exact k.via fun t q => XS.lshr X.here hx rfl hd rfl q
theorem lushr (P : Pos Z y bytes maxL ret n0 p l e R s m args below meth c T h cells slots) {x : Int64} {z : Int32} (hd : decode bytes pc = .ok (.lushr, 1)) (hp : pc + 1 = pc') (k : Goes p e below s n0 kc ks Q (T.setTop (mkF m pc' L (.long ((x.toUInt64 >>> (z &&& 0x3f).toInt64.toUInt64).toInt64) :: S)))) : Goes p e below s n0 kc ks Q (T.setTop (mkF m pc L (.int z :: .long x :: S))) := by
  obtain ⟨⟨hx, rfl, rfl, hown, hnm, rfl, hlk, hZ, hn0⟩, locs, X, rfl, N⟩ := P
  subst hp
  exact k.via fun t q => XS.lushr X.here hx rfl hd rfl q
theorem idiv (P : Pos Z y bytes maxL ret n0 p l e R s m args below meth c T h cells slots) {x z : Int32} (hd : decode bytes pc = .ok (.idiv, 1)) (hz : z ≠ 0) (hp : pc + 1 = pc') (k : Goes p e below s n0 kc ks Q (T.setTop (mkF m pc' L (.int (x / z) :: S)))) : Goes p e below s n0 kc ks Q (T.setTop (mkF m pc L (.int z :: .int x :: S))) := by
  obtain ⟨⟨hx, rfl, rfl, hown, hnm, rfl, hlk, hZ, hn0⟩, locs, X, rfl, N⟩ := P
  subst hp
  exact k.via fun t q => XS.idiv X.here hx rfl hd rfl hz q
theorem irem (P : Pos Z y bytes maxL ret n0 p l e R s m args below meth c T h cells slots) {x z : Int32} (hd : decode bytes pc = .ok (.irem, 1)) (hz : z ≠ 0) (hp : pc + 1 = pc') (k : Goes p e below s n0 kc ks Q (T.setTop (mkF m pc' L (.int (x % z) :: S)))) : Goes p e below s n0 kc ks Q (T.setTop (mkF m pc L (.int z :: .int x :: S))) := by
  obtain ⟨⟨hx, rfl, rfl, hown, hnm, rfl, hlk, hZ, hn0⟩, locs, X, rfl, N⟩ := P
  subst hp
  exact k.via fun t q => iremM X hx rfl hd rfl hz q
theorem ldiv (P : Pos Z y bytes maxL ret n0 p l e R s m args below meth c T h cells slots) {x z : Int64} (hd : decode bytes pc = .ok (.ldiv, 1)) (hz : z ≠ 0) (hp : pc + 1 = pc') (k : Goes p e below s n0 kc ks Q (T.setTop (mkF m pc' L (.long (x / z) :: S)))) : Goes p e below s n0 kc ks Q (T.setTop (mkF m pc L (.long z :: .long x :: S))) := by
  obtain ⟨⟨hx, rfl, rfl, hown, hnm, rfl, hlk, hZ, hn0⟩, locs, X, rfl, N⟩ := P
  subst hp
  exact k.via fun t q => XS.ldiv X.here hx rfl hd rfl hz q
theorem lrem (P : Pos Z y bytes maxL ret n0 p l e R s m args below meth c T h cells slots) {x z : Int64} (hd : decode bytes pc = .ok (.lrem, 1)) (hz : z ≠ 0) (hp : pc + 1 = pc') (k : Goes p e below s n0 kc ks Q (T.setTop (mkF m pc' L (.long (x % z) :: S)))) : Goes p e below s n0 kc ks Q (T.setTop (mkF m pc L (.long z :: .long x :: S))) := by
  obtain ⟨⟨hx, rfl, rfl, hown, hnm, rfl, hlk, hZ, hn0⟩, locs, X, rfl, N⟩ := P
  subst hp
  exact k.via fun t q => XS.lrem X.here hx rfl hd rfl hz (by rw [lrem_mod]; exact q)
theorem ineg (P : Pos Z y bytes maxL ret n0 p l e R s m args below meth c T h cells slots) {x : Int32} (hd : decode bytes pc = .ok (.ineg, 1)) (hp : pc + 1 = pc') (k : Goes p e below s n0 kc ks Q (T.setTop (mkF m pc' L (.int (-x) :: S)))) : Goes p e below s n0 kc ks Q (T.setTop (mkF m pc L (.int x :: S))) := by
  obtain ⟨⟨hx, rfl, rfl, hown, hnm, rfl, hlk, hZ, hn0⟩, locs, X, rfl, N⟩ := P
  subst hp
  exact k.via fun t q => XS.ineg X.here hx rfl hd rfl q
theorem lneg (P : Pos Z y bytes maxL ret n0 p l e R s m args below meth c T h cells slots) {x : Int64} (hd : decode bytes pc = .ok (.lneg, 1)) (hp : pc + 1 = pc') (k : Goes p e below s n0 kc ks Q (T.setTop (mkF m pc' L (.long (-x) :: S)))) : Goes p e below s n0 kc ks Q (T.setTop (mkF m pc L (.long x :: S))) := by
  obtain ⟨⟨hx, rfl, rfl, hown, hnm, rfl, hlk, hZ, hn0⟩, locs, X, rfl, N⟩ := P
  subst hp
  exact k.via fun t q => XS.lneg X.here hx rfl hd rfl q
theorem i2l (P : Pos Z y bytes maxL ret n0 p l e R s m args below meth c T h cells slots) {x : Int32} (hd : decode bytes pc = .ok (.i2l, 1)) (hp : pc + 1 = pc') (k : Goes p e below s n0 kc ks Q (T.setTop (mkF m pc' L (.long (x.toInt64) :: S)))) : Goes p e below s n0 kc ks Q (T.setTop (mkF m pc L (.int x :: S))) := by
  obtain ⟨⟨hx, rfl, rfl, hown, hnm, rfl, hlk, hZ, hn0⟩, locs, X, rfl, N⟩ := P
  subst hp
  exact k.via fun t q => XS.i2l X.here hx rfl hd rfl q
theorem l2i (P : Pos Z y bytes maxL ret n0 p l e R s m args below meth c T h cells slots) {x : Int64} (hd : decode bytes pc = .ok (.l2i, 1)) (hp : pc + 1 = pc') (k : Goes p e below s n0 kc ks Q (T.setTop (mkF m pc' L (.int (x.toInt32) :: S)))) : Goes p e below s n0 kc ks Q (T.setTop (mkF m pc L (.long x :: S))) := by
  obtain ⟨⟨hx, rfl, rfl, hown, hnm, rfl, hlk, hZ, hn0⟩, locs, X, rfl, N⟩ := P
  subst hp
  exact k.via fun t q => XS.l2i X.here hx rfl hd rfl q
theorem i2b (P : Pos Z y bytes maxL ret n0 p l e R s m args below meth c T h cells slots) {x : Int32} (hd : decode bytes pc = .ok (.i2b, 1)) (hp : pc + 1 = pc') (k : Goes p e below s n0 kc ks Q (T.setTop (mkF m pc' L (.int (x.toInt8.toInt32) :: S)))) : Goes p e below s n0 kc ks Q (T.setTop (mkF m pc L (.int x :: S))) := by
  obtain ⟨⟨hx, rfl, rfl, hown, hnm, rfl, hlk, hZ, hn0⟩, locs, X, rfl, N⟩ := P
  subst hp
  exact k.via fun t q => XS.i2b X.here hx rfl hd rfl q
theorem i2s (P : Pos Z y bytes maxL ret n0 p l e R s m args below meth c T h cells slots) {x : Int32} (hd : decode bytes pc = .ok (.i2s, 1)) (hp : pc + 1 = pc') (k : Goes p e below s n0 kc ks Q (T.setTop (mkF m pc' L (.int (x.toInt16.toInt32) :: S)))) : Goes p e below s n0 kc ks Q (T.setTop (mkF m pc L (.int x :: S))) := by
  obtain ⟨⟨hx, rfl, rfl, hown, hnm, rfl, hlk, hZ, hn0⟩, locs, X, rfl, N⟩ := P
  subst hp
  exact k.via fun t q => XS.i2s X.here hx rfl hd rfl q
theorem i2c (P : Pos Z y bytes maxL ret n0 p l e R s m args below meth c T h cells slots) {x : Int32} (hd : decode bytes pc = .ok (.i2c, 1)) (hp : pc + 1 = pc') (k : Goes p e below s n0 kc ks Q (T.setTop (mkF m pc' L (.int (x.toUInt32.toUInt16.toUInt32.toInt32) :: S)))) : Goes p e below s n0 kc ks Q (T.setTop (mkF m pc L (.int x :: S))) := by
  obtain ⟨⟨hx, rfl, rfl, hown, hnm, rfl, hlk, hZ, hn0⟩, locs, X, rfl, N⟩ := P
  subst hp
  exact k.via fun t q => XS.i2c X.here hx rfl hd rfl q
theorem lcmp (P : Pos Z y bytes maxL ret n0 p l e R s m args below meth c T h cells slots) {x z : Int64} (hd : decode bytes pc = .ok (.lcmp, 1)) (hp : pc + 1 = pc') (k : Goes p e below s n0 kc ks Q (T.setTop (mkF m pc' L (.int (lcmpW x z) :: S)))) : Goes p e below s n0 kc ks Q (T.setTop (mkF m pc L (.long z :: .long x :: S))) := by
  obtain ⟨⟨hx, rfl, rfl, hown, hnm, rfl, hlk, hZ, hn0⟩, locs, X, rfl, N⟩ := P
  subst hp
  exact k.via fun t q => XS.lcmp X.here hx rfl hd rfl q
theorem iinc (P : Pos Z y bytes maxL ret n0 p l e R s m args below meth c T h cells slots) {k : Nat} {i : Int} {x v' : Int32} (hd : decode bytes pc = .ok (.iinc k i, 3)) (hl : L[k]? = some (.val (.int x))) (hv : x + Int32.ofInt i = v') (hl' : storeLocals L k (.int v') = some L') (hp : pc + 3 = pc') (k : Goes p e below s n0 kc ks Q (T.setTop (mkF m pc' L' S))) : Goes p e below s n0 kc ks Q (T.setTop (mkF m pc L S)) := by
  obtain ⟨⟨hx, rfl, rfl, hown, hnm, rfl, hlk, hZ, hn0⟩, locs, X, rfl, N⟩ := P
  subst hp hv
  exact k.via fun t q => XS.iinc X.here hx rfl hd hl hl' q
theorem dup (P : Pos Z y bytes maxL ret n0 p l e R s m args below meth c T h cells slots) {v : Value} (hd : decode bytes pc = .ok (.dup, 1)) (hc : v.category = 1) (hp : pc + 1 = pc') (k : Goes p e below s n0 kc ks Q (T.setTop (mkF m pc' L (v :: v :: S)))) : Goes p e below s n0 kc ks Q (T.setTop (mkF m pc L (v :: S))) := by
  obtain ⟨⟨hx, rfl, rfl, hown, hnm, rfl, hlk, hZ, hn0⟩, locs, X, rfl, N⟩ := P
  subst hp
  exact k.via fun t q => XS.dup X.here hx rfl hd rfl hc q
theorem pop (P : Pos Z y bytes maxL ret n0 p l e R s m args below meth c T h cells slots) {v : Value} (hd : decode bytes pc = .ok (.pop, 1)) (hc : v.category = 1) (hp : pc + 1 = pc') (k : Goes p e below s n0 kc ks Q (T.setTop (mkF m pc' L S))) : Goes p e below s n0 kc ks Q (T.setTop (mkF m pc L (v :: S))) := by
  obtain ⟨⟨hx, rfl, rfl, hown, hnm, rfl, hlk, hZ, hn0⟩, locs, X, rfl, N⟩ := P
  subst hp
  exact k.via fun t q => XS.pop X.here hx rfl hd rfl hc q
theorem dupX1 (P : Pos Z y bytes maxL ret n0 p l e R s m args below meth c T h cells slots) {v u : Value} (hd : decode bytes pc = .ok (.dup_x1, 1)) (hc : v.category = 1) (hc' : u.category = 1) (hp : pc + 1 = pc') (k : Goes p e below s n0 kc ks Q (T.setTop (mkF m pc' L (v :: u :: v :: S)))) : Goes p e below s n0 kc ks Q (T.setTop (mkF m pc L (v :: u :: S))) := by
  obtain ⟨⟨hx, rfl, rfl, hown, hnm, rfl, hlk, hZ, hn0⟩, locs, X, rfl, N⟩ := P
  subst hp
  exact k.via fun t q => XS.dupX1 X.here hx rfl hd rfl hc hc' q
theorem dup2 (P : Pos Z y bytes maxL ret n0 p l e R s m args below meth c T h cells slots) {v u : Value} (hd : decode bytes pc = .ok (.dup2, 1)) (hc : v.category = 1) (hc' : u.category = 1) (hp : pc + 1 = pc') (k : Goes p e below s n0 kc ks Q (T.setTop (mkF m pc' L (v :: u :: v :: u :: S)))) : Goes p e below s n0 kc ks Q (T.setTop (mkF m pc L (v :: u :: S))) := by
  obtain ⟨⟨hx, rfl, rfl, hown, hnm, rfl, hlk, hZ, hn0⟩, locs, X, rfl, N⟩ := P
  subst hp
  exact k.via fun t q => XT.dup2 X.here hx rfl hd rfl hc hc' q
theorem pop2L (P : Pos Z y bytes maxL ret n0 p l e R s m args below meth c T h cells slots) {v : Int64} (hd : decode bytes pc = .ok (.pop2, 1)) (hp : pc + 1 = pc') (k : Goes p e below s n0 kc ks Q (T.setTop (mkF m pc' L S))) : Goes p e below s n0 kc ks Q (T.setTop (mkF m pc L (.long v :: S))) := by
  obtain ⟨⟨hx, rfl, rfl, hown, hnm, rfl, hlk, hZ, hn0⟩, locs, X, rfl, N⟩ := P
  subst hp
  refine k.via fun t q => ?_
  jvm_step X.here [X.here.top, hx, hd, Value.category]
  exact q
theorem goto (P : Pos Z y bytes maxL ret n0 p l e R s m args below meth c T h cells slots) {o : Int} (hd : decode bytes pc = .ok (.goto o, 3)) (ho : 0 ≤ (pc : Int) + o) (hp : ((pc : Int) + o).toNat = pc') (k : Goes p e below s n0 kc ks Q (T.setTop (mkF m pc' L S))) : Goes p e below s n0 kc ks Q (T.setTop (mkF m pc L S)) := by
  obtain ⟨⟨hx, rfl, rfl, hown, hnm, rfl, hlk, hZ, hn0⟩, locs, X, rfl, N⟩ := P
  exact k.via fun t q => XS.goto X.here hx rfl (pc0 := pc) (pc' := pc') rfl hd ho hp q
theorem icmp_lt (P : Pos Z y bytes maxL ret n0 p l e R s m args below meth c T h cells slots) {x z : Int32} {o : Int} (hd : decode bytes pc = .ok (.if_icmp .lt o, 3)) (ho : 0 ≤ (pc : Int) + o) (hY : ((pc : Int) + o).toNat = pcY) (hN : pc + 3 = pcN) (kY : x < z → Goes p e below s n0 kc ks Q (T.setTop (mkF m pcY L S))) (kN : ¬ x < z → Goes p e below s n0 kc ks Q (T.setTop (mkF m pcN L S))) : Goes p e below s n0 kc ks Q (T.setTop (mkF m pc L (.int z :: .int x :: S))) := by
  obtain ⟨⟨hx, rfl, rfl, hown, hnm, rfl, hlk, hZ, hn0⟩, locs, X, rfl, N⟩ := P
  by_cases q : x < z
  · exact (kY q).via fun t r => XS.icmpYes X.here hx rfl (pc0 := pc) (pc' := pcY) rfl hd rfl (tlt q).1 ho hY r
  · subst hN
    exact (kN q).via fun t r => XS.icmpNo X.here hx rfl hd rfl (flt q).1 r
theorem if_lt (P : Pos Z y bytes maxL ret n0 p l e R s m args below meth c T h cells slots) {x : Int32} {o : Int} (hd : decode bytes pc = .ok (.ifCond .lt o, 3)) (ho : 0 ≤ (pc : Int) + o) (hY : ((pc : Int) + o).toNat = pcY) (hN : pc + 3 = pcN) (kY : x < 0 → Goes p e below s n0 kc ks Q (T.setTop (mkF m pcY L S))) (kN : ¬ x < 0 → Goes p e below s n0 kc ks Q (T.setTop (mkF m pcN L S))) : Goes p e below s n0 kc ks Q (T.setTop (mkF m pc L (.int x :: S))) := by
  obtain ⟨⟨hx, rfl, rfl, hown, hnm, rfl, hlk, hZ, hn0⟩, locs, X, rfl, N⟩ := P
  by_cases q : x < 0
  · exact (kY q).via fun t r => XS.ifYes X.here hx rfl (pc0 := pc) (pc' := pcY) rfl hd rfl ((if0 _ _).trans (tlt q).1) ho hY r
  · subst hN
    exact (kN q).via fun t r => XS.ifNo X.here hx rfl hd rfl ((if0 _ _).trans (flt q).1) r
theorem icmp_ge (P : Pos Z y bytes maxL ret n0 p l e R s m args below meth c T h cells slots) {x z : Int32} {o : Int} (hd : decode bytes pc = .ok (.if_icmp .ge o, 3)) (ho : 0 ≤ (pc : Int) + o) (hY : ((pc : Int) + o).toNat = pcY) (hN : pc + 3 = pcN) (kY : ¬ x < z → Goes p e below s n0 kc ks Q (T.setTop (mkF m pcY L S))) (kN : x < z → Goes p e below s n0 kc ks Q (T.setTop (mkF m pcN L S))) : Goes p e below s n0 kc ks Q (T.setTop (mkF m pc L (.int z :: .int x :: S))) := by
  obtain ⟨⟨hx, rfl, rfl, hown, hnm, rfl, hlk, hZ, hn0⟩, locs, X, rfl, N⟩ := P
  by_cases q : x < z
  · subst hN
    exact (kN q).via fun t r => XS.icmpNo X.here hx rfl hd rfl (tlt q).2.1 r
  · exact (kY q).via fun t r => XS.icmpYes X.here hx rfl (pc0 := pc) (pc' := pcY) rfl hd rfl (flt q).2.1 ho hY r
theorem if_ge (P : Pos Z y bytes maxL ret n0 p l e R s m args below meth c T h cells slots) {x : Int32} {o : Int} (hd : decode bytes pc = .ok (.ifCond .ge o, 3)) (ho : 0 ≤ (pc : Int) + o) (hY : ((pc : Int) + o).toNat = pcY) (hN : pc + 3 = pcN) (kY : ¬ x < 0 → Goes p e below s n0 kc ks Q (T.setTop (mkF m pcY L S))) (kN : x < 0 → Goes p e below s n0 kc ks Q (T.setTop (mkF m pcN L S))) : Goes p e below s n0 kc ks Q (T.setTop (mkF m pc L (.int x :: S))) := by
  obtain ⟨⟨hx, rfl, rfl, hown, hnm, rfl, hlk, hZ, hn0⟩, locs, X, rfl, N⟩ := P
  by_cases q : x < 0
  · subst hN
    exact (kN q).via fun t r => XS.ifNo X.here hx rfl hd rfl ((if0 _ _).trans (tlt q).2.1) r
  · exact (kY q).via fun t r => XS.ifYes X.here hx rfl (pc0 := pc) (pc' := pcY) rfl hd rfl ((if0 _ _).trans (flt q).2.1) ho hY r
theorem icmp_gt (P : Pos Z y bytes maxL ret n0 p l e R s m args below meth c T h cells slots) {x z : Int32} {o : Int} (hd : decode bytes pc = .ok (.if_icmp .gt o, 3)) (ho : 0 ≤ (pc : Int) + o) (hY : ((pc : Int) + o).toNat = pcY) (hN : pc + 3 = pcN) (kY : z < x → Goes p e below s n0 kc ks Q (T.setTop (mkF m pcY L S))) (kN : ¬ z < x → Goes p e below s n0 kc ks Q (T.setTop (mkF m pcN L S))) : Goes p e below s n0 kc ks Q (T.setTop (mkF m pc L (.int z :: .int x :: S))) := by
  obtain ⟨⟨hx, rfl, rfl, hown, hnm, rfl, hlk, hZ, hn0⟩, locs, X, rfl, N⟩ := P
  by_cases q : z < x
  · exact (kY q).via fun t r => XS.icmpYes X.here hx rfl (pc0 := pc) (pc' := pcY) rfl hd rfl (tlt q).2.2.1 ho hY r
  · subst hN
    exact (kN q).via fun t r => XS.icmpNo X.here hx rfl hd rfl (flt q).2.2.1 r
theorem if_gt (P : Pos Z y bytes maxL ret n0 p l e R s m args below meth c T h cells slots) {x : Int32} {o : Int} (hd : decode bytes pc = .ok (.ifCond .gt o, 3)) (ho : 0 ≤ (pc : Int) + o) (hY : ((pc : Int) + o).toNat = pcY) (hN : pc + 3 = pcN) (kY : 0 < x → Goes p e below s n0 kc ks Q (T.setTop (mkF m pcY L S))) (kN : ¬ 0 < x → Goes p e below s n0 kc ks Q (T.setTop (mkF m pcN L S))) : Goes p e below s n0 kc ks Q (T.setTop (mkF m pc L (.int x :: S))) := by
  obtain ⟨⟨hx, rfl, rfl, hown, hnm, rfl, hlk, hZ, hn0⟩, locs, X, rfl, N⟩ := P
  by_cases q : 0 < x
  · exact (kY q).via fun t r => XS.ifYes X.here hx rfl (pc0 := pc) (pc' := pcY) rfl hd rfl ((if0 _ _).trans (tlt q).2.2.1) ho hY r
  · subst hN
    exact (kN q).via fun t r => XS.ifNo X.here hx rfl hd rfl ((if0 _ _).trans (flt q).2.2.1) r
theorem icmp_le (P : Pos Z y bytes maxL ret n0 p l e R s m args below meth c T h cells slots) {x z : Int32} {o : Int} (hd : decode bytes pc = .ok (.if_icmp .le o, 3)) (ho : 0 ≤ (pc : Int) + o) (hY : ((pc : Int) + o).toNat = pcY) (hN : pc + 3 = pcN) (kY : ¬ z < x → Goes p e below s n0 kc ks Q (T.setTop (mkF m pcY L S))) (kN : z < x → Goes p e below s n0 kc ks Q (T.setTop (mkF m pcN L S))) : Goes p e below s n0 kc ks Q (T.setTop (mkF m pc L (.int z :: .int x :: S))) := by
  obtain ⟨⟨hx, rfl, rfl, hown, hnm, rfl, hlk, hZ, hn0⟩, locs, X, rfl, N⟩ := P
  by_cases q : z < x
  · subst hN
    exact (kN q).via fun t r => XS.icmpNo X.here hx rfl hd rfl (tlt q).2.2.2 r
  · exact (kY q).via fun t r => XS.icmpYes X.here hx rfl (pc0 := pc) (pc' := pcY) rfl hd rfl (flt q).2.2.2 ho hY r
theorem if_le (P : Pos Z y bytes maxL ret n0 p l e R s m args below meth c T h cells slots) {x : Int32} {o : Int} (hd : decode bytes pc = .ok (.ifCond .le o, 3)) (ho : 0 ≤ (pc : Int) + o) (hY : ((pc : Int) + o).toNat = pcY) (hN : pc + 3 = pcN) (kY : ¬ 0 < x → Goes p e below s n0 kc ks Q (T.setTop (mkF m pcY L S))) (kN : 0 < x → Goes p e below s n0 kc ks Q (T.setTop (mkF m pcN L S))) : Goes p e below s n0 kc ks Q (T.setTop (mkF m pc L (.int x :: S))) := by
  obtain ⟨⟨hx, rfl, rfl, hown, hnm, rfl, hlk, hZ, hn0⟩, locs, X, rfl, N⟩ := P
  by_cases q : 0 < x
  · subst hN
    exact (kN q).via fun t r => XS.ifNo X.here hx rfl hd rfl ((if0 _ _).trans (tlt q).2.2.2) r
  · exact (kY q).via fun t r => XS.ifYes X.here hx rfl (pc0 := pc) (pc' := pcY) rfl hd rfl ((if0 _ _).trans (flt q).2.2.2) ho hY r
theorem icmp_eq (P : Pos Z y bytes maxL ret n0 p l e R s m args below meth c T h cells slots) {x z : Int32} {o : Int} (hd : decode bytes pc = .ok (.if_icmp .eq o, 3)) (ho : 0 ≤ (pc : Int) + o) (hY : ((pc : Int) + o).toNat = pcY) (hN : pc + 3 = pcN) (kY : x = z → Goes p e below s n0 kc ks Q (T.setTop (mkF m pcY L S))) (kN : ¬ x = z → Goes p e below s n0 kc ks Q (T.setTop (mkF m pcN L S))) : Goes p e below s n0 kc ks Q (T.setTop (mkF m pc L (.int z :: .int x :: S))) := by
  obtain ⟨⟨hx, rfl, rfl, hown, hnm, rfl, hlk, hZ, hn0⟩, locs, X, rfl, N⟩ := P
  by_cases q : x = z
  · exact (kY q).via fun t r => XS.icmpYes X.here hx rfl (pc0 := pc) (pc' := pcY) rfl hd rfl (teq q).1 ho hY r
  · subst hN
    exact (kN q).via fun t r => XS.icmpNo X.here hx rfl hd rfl (feq q).1 r
theorem if_eq (P : Pos Z y bytes maxL ret n0 p l e R s m args below meth c T h cells slots) {x : Int32} {o : Int} (hd : decode bytes pc = .ok (.ifCond .eq o, 3)) (ho : 0 ≤ (pc : Int) + o) (hY : ((pc : Int) + o).toNat = pcY) (hN : pc + 3 = pcN) (kY : x = 0 → Goes p e below s n0 kc ks Q (T.setTop (mkF m pcY L S))) (kN : ¬ x = 0 → Goes p e below s n0 kc ks Q (T.setTop (mkF m pcN L S))) : Goes p e below s n0 kc ks Q (T.setTop (mkF m pc L (.int x :: S))) := by
  obtain ⟨⟨hx, rfl, rfl, hown, hnm, rfl, hlk, hZ, hn0⟩, locs, X, rfl, N⟩ := P
  by_cases q : x = 0
  · exact (kY q).via fun t r => XS.ifYes X.here hx rfl (pc0 := pc) (pc' := pcY) rfl hd rfl ((if0 _ _).trans (teq q).1) ho hY r
  · subst hN
    exact (kN q).via fun t r => XS.ifNo X.here hx rfl hd rfl ((if0 _ _).trans (feq q).1) r
theorem icmp_ne (P : Pos Z y bytes maxL ret n0 p l e R s m args below meth c T h cells slots) {x z : Int32} {o : Int} (hd : decode bytes pc = .ok (.if_icmp .ne o, 3)) (ho : 0 ≤ (pc : Int) + o) (hY : ((pc : Int) + o).toNat = pcY) (hN : pc + 3 = pcN) (kY : ¬ x = z → Goes p e below s n0 kc ks Q (T.setTop (mkF m pcY L S))) (kN : x = z → Goes p e below s n0 kc ks Q (T.setTop (mkF m pcN L S))) : Goes p e below s n0 kc ks Q (T.setTop (mkF m pc L (.int z :: .int x :: S))) := by
  obtain ⟨⟨hx, rfl, rfl, hown, hnm, rfl, hlk, hZ, hn0⟩, locs, X, rfl, N⟩ := P
  by_cases q : x = z
  · subst hN
    exact (kN q).via fun t r => XS.icmpNo X.here hx rfl hd rfl (teq q).2 r
  · exact (kY q).via fun t r => XS.icmpYes X.here hx rfl (pc0 := pc) (pc' := pcY) rfl hd rfl (feq q).2 ho hY r
theorem if_ne (P : Pos Z y bytes maxL ret n0 p l e R s m args below meth c T h cells slots) {x : Int32} {o : Int} (hd : decode bytes pc = .ok (.ifCond .ne o, 3)) (ho : 0 ≤ (pc : Int) + o) (hY : ((pc : Int) + o).toNat = pcY) (hN : pc + 3 = pcN) (kY : ¬ x = 0 → Goes p e below s n0 kc ks Q (T.setTop (mkF m pcY L S))) (kN : x = 0 → Goes p e below s n0 kc ks Q (T.setTop (mkF m pcN L S))) : Goes p e below s n0 kc ks Q (T.setTop (mkF m pc L (.int x :: S))) := by
  obtain ⟨⟨hx, rfl, rfl, hown, hnm, rfl, hlk, hZ, hn0⟩, locs, X, rfl, N⟩ := P
  by_cases q : x = 0
  · subst hN
    exact (kN q).via fun t r => XS.ifNo X.here hx rfl hd rfl ((if0 _ _).trans (teq q).2) r
  · exact (kY q).via fun t r => XS.ifYes X.here hx rfl (pc0 := pc) (pc' := pcY) rfl hd rfl ((if0 _ _).trans (feq q).2) ho hY r
theorem lif_lt (P : Pos Z y bytes maxL ret n0 p l e R s m args below meth c T h cells slots) {x z : Int64} {o : Int} (hd : decode bytes pc = .ok (.ifCond .lt o, 3)) (ho : 0 ≤ (pc : Int) + o) (hY : ((pc : Int) + o).toNat = pcY) (hN : pc + 3 = pcN) (kY : x < z → Goes p e below s n0 kc ks Q (T.setTop (mkF m pcY L S))) (kN : ¬ x < z → Goes p e below s n0 kc ks Q (T.setTop (mkF m pcN L S))) : Goes p e below s n0 kc ks Q (T.setTop (mkF m pc L (.int (lcmpW x z) :: S))) :=
  if_lt P hd ho hY hN (fun q => kY ((lw_lt x z).mp q)) (fun q => kN (mt (lw_lt x z).mpr q))
theorem lif_ge (P : Pos Z y bytes maxL ret n0 p l e R s m args below meth c T h cells slots) {x z : Int64} {o : Int} (hd : decode bytes pc = .ok (.ifCond .ge o, 3)) (ho : 0 ≤ (pc : Int) + o) (hY : ((pc : Int) + o).toNat = pcY) (hN : pc + 3 = pcN) (kY : ¬ x < z → Goes p e below s n0 kc ks Q (T.setTop (mkF m pcY L S))) (kN : x < z → Goes p e below s n0 kc ks Q (T.setTop (mkF m pcN L S))) : Goes p e below s n0 kc ks Q (T.setTop (mkF m pc L (.int (lcmpW x z) :: S))) :=
  if_ge P hd ho hY hN (fun q => kY (mt (lw_lt x z).mpr q)) (fun q => kN ((lw_lt x z).mp q))
theorem lif_gt (P : Pos Z y bytes maxL ret n0 p l e R s m args below meth c T h cells slots) {x z : Int64} {o : Int} (hd : decode bytes pc = .ok (.ifCond .gt o, 3)) (ho : 0 ≤ (pc : Int) + o) (hY : ((pc : Int) + o).toNat = pcY) (hN : pc + 3 = pcN) (kY : z < x → Goes p e below s n0 kc ks Q (T.setTop (mkF m pcY L S))) (kN : ¬ z < x → Goes p e below s n0 kc ks Q (T.setTop (mkF m pcN L S))) : Goes p e below s n0 kc ks Q (T.setTop (mkF m pc L (.int (lcmpW x z) :: S))) :=
  if_gt P hd ho hY hN (fun q => kY ((lw_gt x z).mp q)) (fun q => kN (mt (lw_gt x z).mpr q))
theorem lif_le (P : Pos Z y bytes maxL ret n0 p l e R s m args below meth c T h cells slots) {x z : Int64} {o : Int} (hd : decode bytes pc = .ok (.ifCond .le o, 3)) (ho : 0 ≤ (pc : Int) + o) (hY : ((pc : Int) + o).toNat = pcY) (hN : pc + 3 = pcN) (kY : ¬ z < x → Goes p e below s n0 kc ks Q (T.setTop (mkF m pcY L S))) (kN : z < x → Goes p e below s n0 kc ks Q (T.setTop (mkF m pcN L S))) : Goes p e below s n0 kc ks Q (T.setTop (mkF m pc L (.int (lcmpW x z) :: S))) :=
  if_le P hd ho hY hN (fun q => kY (mt (lw_gt x z).mpr q)) (fun q => kN ((lw_gt x z).mp q))
theorem lif_eq (P : Pos Z y bytes maxL ret n0 p l e R s m args below meth c T h cells slots) {x z : Int64} {o : Int} (hd : decode bytes pc = .ok (.ifCond .eq o, 3)) (ho : 0 ≤ (pc : Int) + o) (hY : ((pc : Int) + o).toNat = pcY) (hN : pc + 3 = pcN) (kY : x = z → Goes p e below s n0 kc ks Q (T.setTop (mkF m pcY L S))) (kN : ¬ x = z → Goes p e below s n0 kc ks Q (T.setTop (mkF m pcN L S))) : Goes p e below s n0 kc ks Q (T.setTop (mkF m pc L (.int (lcmpW x z) :: S))) :=
  if_eq P hd ho hY hN (fun q => kY ((lw_eq x z).mp q)) (fun q => kN (mt (lw_eq x z).mpr q))
theorem lif_ne (P : Pos Z y bytes maxL ret n0 p l e R s m args below meth c T h cells slots) {x z : Int64} {o : Int} (hd : decode bytes pc = .ok (.ifCond .ne o, 3)) (ho : 0 ≤ (pc : Int) + o) (hY : ((pc : Int) + o).toNat = pcY) (hN : pc + 3 = pcN) (kY : ¬ x = z → Goes p e below s n0 kc ks Q (T.setTop (mkF m pcY L S))) (kN : x = z → Goes p e below s n0 kc ks Q (T.setTop (mkF m pcN L S))) : Goes p e below s n0 kc ks Q (T.setTop (mkF m pc L (.int (lcmpW x z) :: S))) :=
  if_ne P hd ho hY hN (fun q => kY (mt (lw_eq x z).mpr q)) (fun q => kN ((lw_eq x z).mp q))
theorem ldcI (P : Pos Z y bytes maxL ret n0 p l e R s m args below meth c T h cells slots) {i : Nat} {v : Int32} (w : (Jvm.Cond.constant y.cls i v).before a0 Z = true) (hd : decode bytes pc = .ok (.ldc i, 2)) (hp : pc + 2 = pc') (k : Goes p e below s n0 kc ks Q (T.setTop (mkF m pc' L (.int v :: S)))) : Goes p e below s n0 kc ks Q (T.setTop (mkF m pc L S)) := by
  obtain ⟨⟨hx, rfl, rfl, hown, hnm, rfl, hlk, hZ, hn0⟩, locs, X, rfl, N⟩ := P
  subst hp
  exact k.via fun t q => X.ldcInt hx hown (mvT hZ w) (g := mkF m pc L S) rfl hd _ q
theorem ldc2 (P : Pos Z y bytes maxL ret n0 p l e R s m args below meth c T h cells slots) {i : Nat} {v : Int64} (w : (Jvm.Cond.constantLong y.cls i v).before a0 Z = true) (hd : decode bytes pc = .ok (.ldc2_w i, 3)) (hp : pc + 3 = pc') (k : Goes p e below s n0 kc ks Q (T.setTop (mkF m pc' L (.long v :: S)))) : Goes p e below s n0 kc ks Q (T.setTop (mkF m pc L S)) := by
  obtain ⟨⟨hx, rfl, rfl, hown, hnm, rfl, hlk, hZ, hn0⟩, locs, X, rfl, N⟩ := P
  subst hp
  exact k.via fun t q => X.ldc2Long hx hown (mvT hZ w) (g := mkF m pc L S) rfl hd _ q
theorem ireturn (P : Pos Z y bytes maxL ret n0 p l e R s m args below meth c T h cells slots) {z : Int32} (hr' : ret = some .int) (hd : decode bytes pc = .ok (.ireturn, 1)) (hk1 : cells ≤ kc) (hk2 : slots ≤ ks) (hQ : Q (some (.int z)) h) : Goes p e below s n0 kc ks Q (T.setTop (mkF m pc L (.int z :: S))) := by
  obtain ⟨⟨hx, rfl, rfl, hown, hnm, rfl, hlk, hZ, hn0⟩, locs, X, rfl, N⟩ := P
  obtain ⟨fs, hr, hrun, hended, hW, hsame⟩ := X.leave (v := some (.int z)) (fun h => by rw [hr'] at h; cases h) (hlocks := hlk)
  exact ⟨_, _, retOut X hx hr' rfl (Or.inl ⟨rfl, Or.inl rfl, _, rfl⟩) hd hr, hrun, hended, _, _, rfl, ⟨hQ, N⟩, ⟨_, rfl⟩, hW, hsame.mono hk1 hk2⟩
theorem ireturnN (P : Pos Z y bytes maxL ret n0 p l e R s m args below meth c T h cells slots) {z z' : Int32} {t : FieldType} (hr' : ret = some t) (ht : t = .boolean ∨ t = .byte ∨ t = .char ∨ t = .short) (hz : nar t z = z') (hd : decode bytes pc = .ok (.ireturn, 1)) (hk1 : cells ≤ kc) (hk2 : slots ≤ ks) (hQ : Q (some (.int z')) h) : Goes p e below s n0 kc ks Q (T.setTop (mkF m pc L (.int z :: S))) := by
  obtain ⟨⟨hx, rfl, rfl, hown, hnm, rfl, hlk, hZ, hn0⟩, locs, X, rfl, N⟩ := P
  subst hz
  obtain ⟨fs, hr, hrun, hended, hW, hsame⟩ := X.leave (v := some (.int (nar t z))) (fun h => by rw [hr'] at h; cases h) (hlocks := hlk)
  exact ⟨_, _, retN X hx hr' ht hd hr, hrun, hended, _, _, rfl, ⟨hQ, N⟩, ⟨_, rfl⟩, hW, hsame.mono hk1 hk2⟩
theorem lreturn (P : Pos Z y bytes maxL ret n0 p l e R s m args below meth c T h cells slots) {z : Int64} (hr' : ret = some .long) (hd : decode bytes pc = .ok (.lreturn, 1)) (hk1 : cells ≤ kc) (hk2 : slots ≤ ks) (hQ : Q (some (.long z)) h) : Goes p e below s n0 kc ks Q (T.setTop (mkF m pc L (.long z :: S))) := by
  obtain ⟨⟨hx, rfl, rfl, hown, hnm, rfl, hlk, hZ, hn0⟩, locs, X, rfl, N⟩ := P
  obtain ⟨fs, hr, hrun, hended, hW, hsame⟩ := X.leave (v := some (.long z)) (fun h => by rw [hr'] at h; cases h) (hlocks := hlk)
  exact ⟨_, _, retOut X hx hr' rfl (Or.inr (Or.inl ⟨rfl, rfl, _, rfl⟩)) hd hr, hrun, hended, _, _, rfl, ⟨hQ, N⟩, ⟨_, rfl⟩, hW, hsame.mono hk1 hk2⟩
theorem areturn (P : Pos Z y bytes maxL ret n0 p l e R s m args below meth c T h cells slots) {v : Value} {t : FieldType} (hr' : ret = some t) (ht : t.isReference = true) (hv : v.isRef = true) (hn : narrow t v = v) (hd : decode bytes pc = .ok (.areturn, 1)) (hk1 : cells ≤ kc) (hk2 : slots ≤ ks) (hQ : Q (some v) h) : Goes p e below s n0 kc ks Q (T.setTop (mkF m pc L (v :: S))) := by
  obtain ⟨⟨hx, rfl, rfl, hown, hnm, rfl, hlk, hZ, hn0⟩, locs, X, rfl, N⟩ := P
  obtain ⟨fs, hr, hrun, hended, hW, hsame⟩ := X.leave (v := some v) (fun h => by rw [hr'] at h; cases h) (hlocks := hlk)
  exact ⟨_, _, retOut X hx hr' hn (Or.inr (Or.inr (Or.inr (Or.inr ⟨rfl, ht, hv⟩)))) hd hr, hrun, hended, _, _, rfl, ⟨hQ, N⟩, ⟨_, rfl⟩, hW, hsame.mono hk1 hk2⟩
theorem return_ (P : Pos Z y bytes maxL ret n0 p l e R s m args below meth c T h cells slots) (hr' : ret = none) (hd : decode bytes pc = .ok (.return_, 1)) (hk1 : cells ≤ kc) (hk2 : slots ≤ ks) (hQ : Q none h) : Goes p e below s n0 kc ks Q (T.setTop (mkF m pc L [])) := by
  obtain ⟨⟨hx, rfl, rfl, hown, hnm, rfl, hlk, hZ, hn0⟩, locs, X, rfl, N⟩ := P
  obtain ⟨fs, hr, hrun, hended, hW, hsame⟩ := X.leave (v := none) (fun _ => rfl) (hlocks := hlk)
  exact ⟨_, _, X.returnOut hx hr' hd hr, hrun, hended, _, _, rfl, ⟨hQ, N⟩, ⟨_, rfl⟩, hW, hsame.mono hk1 hk2⟩
theorem getF (P : Pos Z y bytes maxL ret n0 p l e R s m args below meth c T h cells slots) {R0 O n d host : String} {i : Nat} {a : Addr} {v : Value} (w : (Jvm.Cond.fieldLink y.cls i R0 n d).before a0 Z = true ∨ (Jvm.Cond.fieldLinkNest y.cls i R0 n d host).before a0 Z = true) (via : Via Z R0 O n d) (F : Fld Z h a O n d v) (hd : decode bytes pc = .ok (.getfield i, 3)) (hp : pc + 3 = pc') (k : ∀ T', Pos Z y bytes maxL ret n0 p l e R s m args below meth c T' h cells slots → Goes p e below s n0 kc ks Q (T'.setTop (mkF m pc' L (v :: S)))) : Goes p e below s n0 kc ks Q (T.setTop (mkF m pc L (.ref a :: S))) := by
  obtain ⟨⟨hx, rfl, rfl, hown, hnm, rfl, hlk, hZ, hn0⟩, locs, X, rfl, N⟩ := P
  subst hp
  obtain ⟨T', X', e', st⟩ := Jvm.RoadKit.getF X hx hZ hown w via rfl F (g := mkF m pc L (.ref a :: S)) rfl rfl hd
  exact (k T' ⟨⟨hx, rfl, rfl, hown, hnm, rfl, hlk, hZ, hn0⟩, locs, X', e', N⟩).via st
theorem putF (P : Pos Z y bytes maxL ret n0 p l e R s m args below meth c T h cells slots) {R0 O n d host C : String} {i kk : Nat} {ty : FieldType} {a : Addr} {v old : Value} (w : (Jvm.Cond.fieldLink y.cls i R0 n d).before a0 Z = true ∨ (Jvm.Cond.fieldLinkNest y.cls i R0 n d host).before a0 Z = true) (via : Via Z R0 O n d) (F : Fld Z h a O n d old) (E : Exa Z h a C) (W : (Jvm.Cond.lays C O n d).before a0 Z = true ∨ ((Jvm.Cond.laysFinal C O n d).before a0 Z = true ∧ y.cls = O ∧ y.name = "<init>")) (wi : (Jvm.Cond.instantiable C kk).before a0 Z = true) (hty : parseFieldDescriptor d = some ty) (hn : narrow ty v = v) (hf : fits ty v = true) (hg : n0 ≤ a) (hd : decode bytes pc = .ok (.putfield i, 3)) (hp : pc + 3 = pc') (k : ∀ T' h', Pos Z y bytes maxL ret n0 p l e R s m args below meth c T' h' cells slots → Wr h h' a (RoadKit.slotOf Z O n d) v → Goes p e below s n0 kc ks Q (T'.setTop (mkF m pc' L S))) : Goes p e below s n0 kc ks Q (T.setTop (mkF m pc L (v :: .ref a :: S))) := by
  obtain ⟨⟨hx, rfl, rfl, hown, hnm, rfl, hlk, hZ, hn0⟩, locs, X, rfl, N⟩ := P
  subst hp
  obtain ⟨T', h', X', e', W', st⟩ := Jvm.RoadKit.putF X hx hZ hown w via rfl F E (W.imp id fun q => ⟨q.1, q.2.1, hnm.trans q.2.2⟩) wi hty hn hf (g := mkF m pc L (v :: .ref a :: S)) rfl rfl hd
  exact (k T' h' ⟨⟨hx, rfl, rfl, hown, hnm, rfl, hlk, hZ, hn0⟩, _, X', e', Fr.snoc X' N hg⟩ W').via st
theorem new (P : Pos Z y bytes maxL ret n0 p l e R s m args below meth c T h cells slots) {C : String} {i n : Nat} {cells' slots' : Nat} (w : (Jvm.Cond.classLink y.cls i C).before a0 Z = true) (wi : (Jvm.Cond.instantiable C n).before a0 Z = true) (wz : (Jvm.Cond.initialized C).before a0 Z = true) (hd : decode bytes pc = .ok (.new i, 3)) (hc : cells + 1 = cells') (hs : slots + n = slots') (hc' : cells' ≤ R.cells) (hs' : slots' ≤ R.slots) (hp : pc + 3 = pc') (k : ∀ T' h' b, b = h.size → n0 ≤ b → Pos Z y bytes maxL ret n0 p l e R s m args below meth c T' h' cells' slots' → Ext h h' → Exa Z h' b C → (∀ {O nm d : String} {ty : FieldType}, Laid Z a0 C O nm d → parseFieldDescriptor d = some ty → Fld Z h' b O nm d (defaultValue ty)) → Goes p e below s n0 kc ks Q (T'.setTop (mkF m pc' L (.ref b :: S)))) : Goes p e below s n0 kc ks Q (T.setTop (mkF m pc L S)) := by
  obtain ⟨⟨hx, rfl, rfl, hown, hnm, rfl, hlk, hZ, hn0⟩, locs, X, rfl, N⟩ := P
  subst hp hc hs
  obtain ⟨T', h', X', e', E', A', D', -, st⟩ := newO X hx hZ hown w wi wz rfl (g := mkF m pc L S) rfl hd hc' hs'
  exact (k T' h' _ rfl (Nat.le_trans hn0 X.same.2.1) ⟨⟨hx, rfl, rfl, hown, hnm, rfl, hlk, hZ, hn0⟩, _, X', e', N⟩ E' A' D').via st
theorem initO (P : Pos Z y bytes maxL ret n0 p l e R s m args below meth c T h cells slots) {i W : Nat} {a : Addr} (w1 : (Jvm.Cond.methodLink y.cls i Lib.objectInit).before a0 Z = true) (w2 : (Jvm.Cond.instanceMethod Lib.objectInit).before a0 Z = true) (w3 : (Jvm.Cond.code Lib.objectInit ⟨#[0xb1]⟩ 1 none).before a0 Z = true) (hsz : L.size = maxL) (hd : decode bytes pc = .ok (.invokespecial i, 3)) (hf : 1 ≤ R.frames) (hW : (S.map fun v => v.category).sum ≤ W) (hl : W + 12 ≤ R.locals) (hp : pc + 3 = pc') (k : ∀ T', Pos Z y bytes maxL ret n0 p l e R s m args below meth c T' h cells slots → Goes p e below s n0 kc ks Q (T'.setTop (mkF m pc' L S))) : Goes p e below s n0 kc ks Q (T.setTop (mkF m pc L (.ref a :: S))) := by
  obtain ⟨⟨hx, rfl, rfl, hown, hnm, rfl, hlk, hZ, hn0⟩, locs, X, rfl, N⟩ := P
  subst hp
  obtain ⟨T', X', e', st⟩ := Jvm.RoadKit.initO X hx hZ hown w1 w2 w3 rfl (g := mkF m pc L (.ref a :: S)) rfl hsz rfl hd hf (W := W) (by have q0 := hW; show 2 * 0 + _ ≤ _; omega) hl
  exact (k T' ⟨⟨hx, rfl, rfl, hown, hnm, rfl, hlk, hZ, hn0⟩, locs, X', e', N⟩).via st
theorem callS (P : Pos Z y bytes maxL ret n0 p l e R s m args below meth c T h cells slots) {y' : MethodName} {bytes' : ByteArray} {maxL' : Nat} {ret' : Option FieldType} {rm : Room} {i W cells' slots' : Nat} {argsL rest : List Value} {Q' : Option Value → Heap → Prop} (w1 : (Jvm.Cond.methodLink y.cls i y').before a0 Z = true) (w2 : (Jvm.Cond.static y').before a0 Z = true) (w3 : (Jvm.Cond.initialized y'.cls).before a0 Z = true) (w4 : (Jvm.Cond.code y' bytes' maxL' ret').before a0 Z = true) (hy : y'.cls ≠ "java/lang/invoke/MethodHandle" ∧ y'.cls ≠ "java/lang/invoke/VarHandle") (K : Con l Z y' bytes' maxL' ret' rm n0 argsL.toArray h Q') (hf : rm.frames + 1 ≤ R.frames) (hl : W + (maxL' + 11) + rm.locals ≤ R.locals) (hc : cells + rm.cells = cells') (hs : slots + rm.slots = slots') (hc' : cells' ≤ R.cells) (hs' : slots' ≤ R.slots) (hlen : ∀ sig, parseMethodDescriptor y'.desc = some sig → argsL.length = sig.parameters.length) (hsz : L.size = maxL) (hst : S = argsL.reverse ++ rest) (hW : (rest.map fun v => v.category).sum ≤ W) (hd : decode bytes pc = .ok (.invokestatic i, 3)) (hp : pc + 3 = pc') (k : ∀ T' h' v, Pos Z y bytes maxL ret n0 p l e R s m args below meth c T' h' cells' slots' → Q' v h' → Goes p e below s n0 kc ks Q (T'.setTop (mkF m pc' L (v.toList ++ rest)))) : Goes p e below s n0 kc ks Q (T.setTop (mkF m pc L S)) := by
  obtain ⟨⟨hx, rfl, rfl, hown, hnm, rfl, hlk, hZ, hn0⟩, locs, X, rfl, N⟩ := P
  subst hp hc hs hst
  obtain ⟨v, _, ⟨T', L1, k1, n1⟩, -, X', ⟨Lc, ⟨hQ, hN⟩, l1, y1, z1⟩, st⟩ := Jvm.LawKit.callS X hx hown (mvT hZ w1) (mvT hZ w2) (mvT hZ w3) (mvT hZ w4) hy (backOf (W := W) (Q := fun v h L => Q' v h ∧ Fr n0 L) (K []) hZ w4 w3 hf hl) (g := mkF m pc L (argsL.reverse ++ rest)) rfl hsz (argsL := argsL) (rest := rest) hlen rfl (by have q0 := hW; show 2 * 0 + _ ≤ _; omega) hd (fun _ _ => ⟨rfl, rfl, hc', hs'⟩)
  dsimp only [Pt.U, Pt.locs, Pt.cells, Pt.slots] at X' l1 y1 z1 st hQ
  subst l1 y1 z1
  exact (k T' _ v ⟨⟨hx, rfl, rfl, hown, hnm, rfl, hlk, hZ, hn0⟩, _, X', rfl, Fr.app N hN⟩ hQ).via st
theorem callI (P : Pos Z y bytes maxL ret n0 p l e R s m args below meth c T h cells slots) {y' : MethodName} {bytes' : ByteArray} {maxL' : Nat} {rm : Room} {i W cells' slots' : Nat} {argsL rest : List Value} {Q' : Option Value → Heap → Prop} {a : Addr} (hy1 : y'.name = "<init>") (w1 : (Jvm.Cond.methodLink y.cls i y').before a0 Z = true) (w2 : (Jvm.Cond.instanceMethod y').before a0 Z = true) (w3 : (Jvm.Cond.initialized y'.cls).before a0 Z = true) (w4 : (Jvm.Cond.code y' bytes' maxL' none).before a0 Z = true) (hy : y'.cls ≠ "java/lang/invoke/MethodHandle" ∧ y'.cls ≠ "java/lang/invoke/VarHandle") (K : Con l Z y' bytes' maxL' none rm n0 (.ref a :: argsL).toArray h Q') (hf : rm.frames + 1 ≤ R.frames) (hl : W + (maxL' + 11) + rm.locals ≤ R.locals) (hc : cells + rm.cells = cells') (hs : slots + rm.slots = slots') (hc' : cells' ≤ R.cells) (hs' : slots' ≤ R.slots) (hlen : ∀ sig, parseMethodDescriptor y'.desc = some sig → argsL.length = sig.parameters.length) (hsz : L.size = maxL) (hst : S = argsL.reverse ++ .ref a :: rest) (hW : (rest.map fun v => v.category).sum ≤ W) (hd : decode bytes pc = .ok (.invokespecial i, 3)) (hp : pc + 3 = pc') (k : ∀ T' h' v, Pos Z y bytes maxL ret n0 p l e R s m args below meth c T' h' cells' slots' → Q' v h' → Goes p e below s n0 kc ks Q (T'.setTop (mkF m pc' L (v.toList ++ rest)))) : Goes p e below s n0 kc ks Q (T.setTop (mkF m pc L S)) := by
  obtain ⟨⟨hx, rfl, rfl, hown, hnm, rfl, hlk, hZ, hn0⟩, locs, X, rfl, N⟩ := P
  subst hp hc hs hst
  obtain ⟨v, _, ⟨T', L1, k1, n1⟩, -, X', ⟨Lc, ⟨hQ, hN⟩, l1, y1, z1⟩, st⟩ := X.specialBack hx hy1 hown (mvT hZ w1) (mvT hZ w2) (mvT hZ w4) hy (backOf (W := W) (Q := fun v h L => Q' v h ∧ Fr n0 L) (K []) hZ w4 w3 hf hl) (g := mkF m pc L (argsL.reverse ++ .ref a :: rest)) rfl hsz (Steps.refl _) (a := a) (argsL := argsL) (rest := rest) hlen rfl (by have q0 := hW; show 2 * 0 + _ ≤ _; omega) hd (fun _ _ => ⟨rfl, rfl, hc', hs'⟩)
  dsimp only [Pt.U, Pt.locs, Pt.cells, Pt.slots] at X' l1 y1 z1 st hQ
  subst l1 y1 z1
  exact (k T' _ v ⟨⟨hx, rfl, rfl, hown, hnm, rfl, hlk, hZ, hn0⟩, _, X', rfl, Fr.app N hN⟩ hQ).via fun _ q => st.trans q
theorem callV (P : Pos Z y bytes maxL ret n0 p l e R s m args below meth c T h cells slots) {y' : MethodName} {bytes' : ByteArray} {maxL' : Nat} {ret' : Option FieldType} {rm : Room} {i W cells' slots' : Nat} {argsL rest : List Value} {Q' : Option Value → Heap → Prop} {a : Addr} {C : String} (w1 : (Jvm.Cond.methodLink y.cls i y').before a0 Z = true) (w2 : (Jvm.Cond.declares y').before a0 Z = true) (w5 : (Jvm.Cond.selects C y' y').before a0 Z = true) (w6 : (Jvm.Cond.instanceMethod y').before a0 Z = true) (w3 : (Jvm.Cond.initialized y'.cls).before a0 Z = true) (w4 : (Jvm.Cond.code y' bytes' maxL' ret').before a0 Z = true) (hy : y'.cls ≠ "java/lang/invoke/MethodHandle" ∧ y'.cls ≠ "java/lang/invoke/VarHandle") (E : Exa Z h a C) (K : Con l Z y' bytes' maxL' ret' rm n0 (.ref a :: argsL).toArray h Q') (hf : rm.frames + 1 ≤ R.frames) (hl : W + (maxL' + 11) + rm.locals ≤ R.locals) (hc : cells + rm.cells = cells') (hs : slots + rm.slots = slots') (hc' : cells' ≤ R.cells) (hs' : slots' ≤ R.slots) (hlen : ∀ sig, parseMethodDescriptor y'.desc = some sig → argsL.length = sig.parameters.length) (hsz : L.size = maxL) (hst : S = argsL.reverse ++ .ref a :: rest) (hW : (rest.map fun v => v.category).sum ≤ W) (hd : decode bytes pc = .ok (.invokevirtual i, 3)) (hp : pc + 3 = pc') (k : ∀ T' h' v, Pos Z y bytes maxL ret n0 p l e R s m args below meth c T' h' cells' slots' → Q' v h' → Goes p e below s n0 kc ks Q (T'.setTop (mkF m pc' L (v.toList ++ rest)))) : Goes p e below s n0 kc ks Q (T.setTop (mkF m pc L S)) := by
  obtain ⟨⟨hx, rfl, rfl, hown, hnm, rfl, hlk, hZ, hn0⟩, locs, X, rfl, N⟩ := P
  obtain ⟨cq, kq, qa, qb, qc⟩ := isOf (T := T) hZ rfl E
  subst hp hc hs hst
  obtain ⟨v, _, ⟨T', L1, k1, n1⟩, -, X', ⟨Lc, ⟨hQ, hN⟩, l1, y1, z1⟩, st⟩ := X.virtualBack hx (y := y') (z := y') hown (mvT hZ w1) (mvT hZ w2) (notFace_of_selects (args := #[]) (mvT hZ w5)) (mvT hZ w5) (mvT hZ w6) hy (backOf (W := W) (Q := fun v h L => Q' v h ∧ Fr n0 L) (K []) hZ w4 w3 hf hl) qa qc (g := mkF m pc L (argsL.reverse ++ .ref a :: rest)) rfl hsz (Steps.refl _) (argsL := argsL) (rest := rest) hlen rfl (by have q0 := hW; show 2 * 0 + _ ≤ _; omega) hd (fun _ _ => ⟨rfl, rfl, hc', hs'⟩)
  dsimp only [Pt.U, Pt.locs, Pt.cells, Pt.slots] at X' l1 y1 z1 st hQ
  subst l1 y1 z1
  exact (k T' _ v ⟨⟨hx, rfl, rfl, hown, hnm, rfl, hlk, hZ, hn0⟩, _, X', rfl, Fr.app N hN⟩ hQ).via fun _ q => st.trans q
theorem callP (P : Pos Z y bytes maxL ret n0 p l e R s m args below meth c T h cells slots) {y' : MethodName} {bytes' : ByteArray} {maxL' : Nat} {ret' : Option FieldType} {rm : Room} {i W cells' slots' : Nat} {argsL rest : List Value} {Q' : Option Value → Heap → Prop} {a : Addr} {C : String} (w1 : (Jvm.Cond.methodLink y.cls i y').before a0 Z = true) {kk : Nat} (wi : (Jvm.Cond.instantiable y'.cls kk).before a0 Z = true) (w6 : (Jvm.Cond.instanceMethod y').before a0 Z = true) (w7 : (Jvm.Cond.privateMethod y').before a0 Z = true) (w3 : (Jvm.Cond.initialized y'.cls).before a0 Z = true) (w4 : (Jvm.Cond.code y' bytes' maxL' ret').before a0 Z = true) (hy : y'.cls ≠ "java/lang/invoke/MethodHandle" ∧ y'.cls ≠ "java/lang/invoke/VarHandle") (E : Exa Z h a C) (K : Con l Z y' bytes' maxL' ret' rm n0 (.ref a :: argsL).toArray h Q') (hf : rm.frames + 1 ≤ R.frames) (hl : W + (maxL' + 11) + rm.locals ≤ R.locals) (hc : cells + rm.cells = cells') (hs : slots + rm.slots = slots') (hc' : cells' ≤ R.cells) (hs' : slots' ≤ R.slots) (hlen : ∀ sig, parseMethodDescriptor y'.desc = some sig → argsL.length = sig.parameters.length) (hsz : L.size = maxL) (hst : S = argsL.reverse ++ .ref a :: rest) (hW : (rest.map fun v => v.category).sum ≤ W) (hd : decode bytes pc = .ok (.invokevirtual i, 3)) (hp : pc + 3 = pc') (k : ∀ T' h' v, Pos Z y bytes maxL ret n0 p l e R s m args below meth c T' h' cells' slots' → Q' v h' → Goes p e below s n0 kc ks Q (T'.setTop (mkF m pc' L (v.toList ++ rest)))) : Goes p e below s n0 kc ks Q (T.setTop (mkF m pc L S)) := by
  obtain ⟨⟨hx, rfl, rfl, hown, hnm, rfl, hlk, hZ, hn0⟩, locs, X, rfl, N⟩ := P
  obtain ⟨cq, q1, q2⟩ := E.cell
  obtain ⟨ci, ki, j1, j2, -, j3, -⟩ := Cond.instantiable_spec wi
  have w5 : (Jvm.Cond.selects y'.cls y' y').before a0 Z = true := selects_self_of_private j1 j2 (by simp only [Bool.or_eq_false_iff] at j3; exact j3.1) (Cond.privateMethod_at w7) w6 hy
  subst hp hc hs hst
  obtain ⟨v, _, ⟨T', L1, k1, n1⟩, -, X', ⟨Lc, ⟨hQ, hN⟩, l1, y1, z1⟩, st⟩ := X.privateBack hx (y := y') hown (mvT hZ w1) (mvT hZ w6) (mvT hZ w5) (Cond.privateMethod_at (mvP hZ w7 (args := #[]))) (mvT hZ w4) hy (backOf (W := W) (Q := fun v h L => Q' v h ∧ Fr n0 L) (K []) hZ w4 w3 hf hl) (g := mkF m pc L (argsL.reverse ++ .ref a :: rest)) rfl hsz (Steps.refl _) (a := a) q1 q2 (argsL := argsL) (rest := rest) hlen rfl (by have q0 := hW; show 2 * 0 + _ ≤ _; omega) hd (fun _ _ => ⟨rfl, rfl, hc', hs'⟩)
  dsimp only [Pt.U, Pt.locs, Pt.cells, Pt.slots] at X' l1 y1 z1 st hQ
  subst l1 y1 z1
  exact (k T' _ v ⟨⟨hx, rfl, rfl, hown, hnm, rfl, hlk, hZ, hn0⟩, _, X', rfl, Fr.app N hN⟩ hQ).via fun _ q => st.trans q
end Plain
end G
/-- an array at a: n places, the i-th holds the int f i -/
def Ints (Z : State) (h : Heap) (a : Addr) (ty : FieldType) (n : Nat) (f : Nat → Int32) : Prop := n < 2 ^ 31 ∧ ∃ c : Cell, Arr Z h a c ty ∧ c.slots.size = n ∧ ∀ i, i < n → c.slots[i]? = some (.int (f i))
def oupd (f : Nat → Int32) (i : Nat) (x : Int32) : Nat → Int32 := fun k => if k = i then x else f k
def lst (l : List Int32) : Nat → Int32 := fun i => l.getD i 0
section Arrays
variable {Z : State} {h h' : Heap} {a b : Addr} {ty : FieldType} {n : Nat} {f : Nat → Int32} {sl : Nat} {v : Value} {ws : List Addr}
theorem Ints.lt (A : Ints Z h a ty n f) : a < h.size := by obtain ⟨_, c, A, -⟩ := A; exact A.lt
theorem Ints.ext (A : Ints Z h a ty n f) (E : Ext h h') : Ints Z h' a ty n f := by obtain ⟨q, c, A, r⟩ := A; exact ⟨q, c, A.ext E, r⟩
theorem Ints.other (A : Ints Z h b ty n f) (W : Wr h h' a sl v) (q : b ≠ a) : Ints Z h' b ty n f := by obtain ⟨r, c, A, r'⟩ := A; exact ⟨r, c, A.other W q, r'⟩
theorem Ints.keep (A : Ints Z h a ty n f) (K : Keep h h' ws) (q : a ∉ ws) : Ints Z h' a ty n f := by obtain ⟨r, c, A, r'⟩ := A; exact ⟨r, c, ⟨K.2.1 a c A.1 q, A.2⟩, r'⟩
theorem Ints.congr {g : Nat → Int32} (A : Ints Z h a ty n f) (q : ∀ i, i < n → f i = g i) : Ints Z h a ty n g := by obtain ⟨r, c, A, s, r'⟩ := A; exact ⟨r, c, A, s, fun i hi => by rw [r' i hi, q i hi]⟩
theorem Ints.same {i : Nat} {x : Int32} (A : Ints Z h a ty n f) (W : Wr h h' a i (.int x)) : Ints Z h' a ty n (oupd f i x) := by
  obtain ⟨q, c, A, s, r⟩ := A
  refine ⟨q, _, A.same W, (sz_set _ _ _).trans s, fun j hj => ?_⟩
  show (c.slots.setIfInBounds i (.int x))[j]? = _
  by_cases e : j = i
  · subst e
    rw [Array.getElem?_setIfInBounds_self_of_lt (by omega)]
    simp [oupd]
  · rw [Array.getElem?_setIfInBounds_ne (Ne.symm e), r j hj]
    simp [oupd, e]
theorem idx {j : Int32} {i : Nat} (hj : j.toInt = (i : Int)) : ¬ j < 0 ∧ j.toNatClampNeg = i := by
  have q : ¬ j < 0 := by rw [Int32.lt_iff_toInt_lt, hj]; show ¬ ((i : Int) < 0); omega
  have r := nat_of q
  exact ⟨q, by omega⟩
theorem idx_in' {j : Int32} {i : Nat} {c : Cell} (hj : j.toInt = (i : Int)) (hi : i < c.slots.size) : ¬ (j < 0 ∨ c.slots.size ≤ j.toNatClampNeg) := by
  obtain ⟨q, r⟩ := idx hj
  rw [r]
  rintro (s | s)
  · exact q s
  · omega
end Arrays
namespace G
section Plain
variable {Z : State} {y : MethodName} {bytes : ByteArray} {maxL : Nat} {ret : Option FieldType} {n0 : Nat} {p : Program} {l : Launch} {e : Env} {R : Room} {s : State} {m : MethodId} {args : Array Value} {below : List Frame} {meth : Method} {c : Code} {T : State} {h : Heap} {cells slots kc ks : Nat} {Q : Option Value → Heap → Prop} {pc pc' pcY pcN : Nat} {L L' : Array Slot} {S : List Value} {a0 : Array Value}
theorem iaload (P : Pos Z y bytes maxL ret n0 p l e R s m args below meth c T h cells slots) {a : Addr} {n i : Nat} {f : Nat → Int32} {j : Int32} (A : Ints Z h a .int n f) (hj : j.toInt = (i : Int)) (hi : i < n) (hd : decode bytes pc = .ok (.iaload, 1)) (hp : pc + 1 = pc') (k : Goes p e below s n0 kc ks Q (T.setTop (mkF m pc' L (.int (f i) :: S)))) : Goes p e below s n0 kc ks Q (T.setTop (mkF m pc L (.int j :: .ref a :: S))) := by
  obtain ⟨⟨hx, rfl, rfl, hown, hnm, rfl, hlk, hZ, hn0⟩, locs, X, rfl, N⟩ := P
  subst hp
  obtain ⟨-, cl, Ar, sz, r⟩ := A
  exact k.via fun t q => X.iaload hx (j := j) (v := .int (f i)) Ar.1 (State.isArrayOf_alike hZ.alike Ar.2.1) Ar.2.2 (idx_in' hj (by omega)) (by rw [(idx hj).2]; exact r i hi) (g := mkF m pc L (.int j :: .ref a :: S)) rfl rfl hd _ q
theorem baload (P : Pos Z y bytes maxL ret n0 p l e R s m args below meth c T h cells slots) {a : Addr} {n i : Nat} {f : Nat → Int32} {j : Int32} (A : Ints Z h a .byte n f) (hj : j.toInt = (i : Int)) (hi : i < n) (hd : decode bytes pc = .ok (.baload, 1)) (hp : pc + 1 = pc') (k : Goes p e below s n0 kc ks Q (T.setTop (mkF m pc' L (.int (f i) :: S)))) : Goes p e below s n0 kc ks Q (T.setTop (mkF m pc L (.int j :: .ref a :: S))) := by
  obtain ⟨⟨hx, rfl, rfl, hown, hnm, rfl, hlk, hZ, hn0⟩, locs, X, rfl, N⟩ := P
  subst hp
  obtain ⟨-, cl, Ar, sz, r⟩ := A
  exact k.via fun t q => X.baloadBytes hx (j := j) (v := .int (f i)) Ar.1 (State.isArrayOf_alike hZ.alike Ar.2.1) Ar.2.2 (idx_in' hj (by omega)) (by rw [(idx hj).2]; exact r i hi) (g := mkF m pc L (.int j :: .ref a :: S)) rfl rfl hd _ q
theorem zaload (P : Pos Z y bytes maxL ret n0 p l e R s m args below meth c T h cells slots) {a : Addr} {n i : Nat} {f : Nat → Int32} {j : Int32} (A : Ints Z h a .boolean n f) (hj : j.toInt = (i : Int)) (hi : i < n) (hd : decode bytes pc = .ok (.baload, 1)) (hp : pc + 1 = pc') (k : Goes p e below s n0 kc ks Q (T.setTop (mkF m pc' L (.int (f i) :: S)))) : Goes p e below s n0 kc ks Q (T.setTop (mkF m pc L (.int j :: .ref a :: S))) := by
  obtain ⟨⟨hx, rfl, rfl, hown, hnm, rfl, hlk, hZ, hn0⟩, locs, X, rfl, N⟩ := P
  subst hp
  obtain ⟨-, cl, Ar, sz, r⟩ := A
  exact k.via fun t q => X.baloadBooleans hx (j := j) (v := .int (f i)) Ar.1 (State.isArrayOf_alike hZ.alike Ar.2.1) Ar.2.2 (idx_in' hj (by omega)) (by rw [(idx hj).2]; exact r i hi) (g := mkF m pc L (.int j :: .ref a :: S)) rfl rfl hd _ q
theorem iastore (P : Pos Z y bytes maxL ret n0 p l e R s m args below meth c T h cells slots) {a : Addr} {n i : Nat} {f : Nat → Int32} {j x : Int32} (A : Ints Z h a .int n f) (hj : j.toInt = (i : Int)) (hi : i < n) (hg : n0 ≤ a) (hd : decode bytes pc = .ok (.iastore, 1)) (hp : pc + 1 = pc') (k : ∀ T' h', Pos Z y bytes maxL ret n0 p l e R s m args below meth c T' h' cells slots → Wr h h' a i (.int (x)) → Goes p e below s n0 kc ks Q (T'.setTop (mkF m pc' L S))) : Goes p e below s n0 kc ks Q (T.setTop (mkF m pc L (.int x :: .int j :: .ref a :: S))) := by
  obtain ⟨⟨hx, rfl, rfl, hown, hnm, rfl, hlk, hZ, hn0⟩, locs, X, rfl, N⟩ := P
  subst hp
  obtain ⟨-, cl, Ar, sz, r⟩ := A
  obtain ⟨T', h', X', e', W', st⟩ := stI X hx hZ rfl Ar (j := j) (x := x) (idx_in' hj (by omega)) (g := mkF m pc L (.int x :: .int j :: .ref a :: S)) rfl rfl hd
  have hP := Fr.snoc X' N hg
  rw [(idx hj).2] at W'
  exact (k T' h' ⟨⟨hx, rfl, rfl, hown, hnm, rfl, hlk, hZ, hn0⟩, _, X', e', hP⟩ W').via st
theorem bastore (P : Pos Z y bytes maxL ret n0 p l e R s m args below meth c T h cells slots) {a : Addr} {n i : Nat} {f : Nat → Int32} {j x : Int32} (A : Ints Z h a .byte n f) (hj : j.toInt = (i : Int)) (hi : i < n) (hg : n0 ≤ a) (hd : decode bytes pc = .ok (.bastore, 1)) (hp : pc + 1 = pc') (k : ∀ T' h', Pos Z y bytes maxL ret n0 p l e R s m args below meth c T' h' cells slots → Wr h h' a i (.int (nar .byte x)) → Goes p e below s n0 kc ks Q (T'.setTop (mkF m pc' L S))) : Goes p e below s n0 kc ks Q (T.setTop (mkF m pc L (.int x :: .int j :: .ref a :: S))) := by
  obtain ⟨⟨hx, rfl, rfl, hown, hnm, rfl, hlk, hZ, hn0⟩, locs, X, rfl, N⟩ := P
  subst hp
  obtain ⟨-, cl, Ar, sz, r⟩ := A
  obtain ⟨T', h', X', e', W', st⟩ := stB X hx hZ rfl Ar (j := j) (x := x) (idx_in' hj (by omega)) (g := mkF m pc L (.int x :: .int j :: .ref a :: S)) rfl rfl hd
  have hP := Fr.snoc X' N hg
  rw [(idx hj).2] at W'
  exact (k T' h' ⟨⟨hx, rfl, rfl, hown, hnm, rfl, hlk, hZ, hn0⟩, _, X', e', hP⟩ W').via st
theorem zastore (P : Pos Z y bytes maxL ret n0 p l e R s m args below meth c T h cells slots) {a : Addr} {n i : Nat} {f : Nat → Int32} {j x : Int32} (A : Ints Z h a .boolean n f) (hj : j.toInt = (i : Int)) (hi : i < n) (hg : n0 ≤ a) (hd : decode bytes pc = .ok (.bastore, 1)) (hp : pc + 1 = pc') (k : ∀ T' h', Pos Z y bytes maxL ret n0 p l e R s m args below meth c T' h' cells slots → Wr h h' a i (.int (nar .boolean x)) → Goes p e below s n0 kc ks Q (T'.setTop (mkF m pc' L S))) : Goes p e below s n0 kc ks Q (T.setTop (mkF m pc L (.int x :: .int j :: .ref a :: S))) := by
  obtain ⟨⟨hx, rfl, rfl, hown, hnm, rfl, hlk, hZ, hn0⟩, locs, X, rfl, N⟩ := P
  subst hp
  obtain ⟨-, cl, Ar, sz, r⟩ := A
  obtain ⟨T', h', X', e', W', st⟩ := stZ X hx hZ rfl Ar (j := j) (x := x) (idx_in' hj (by omega)) (g := mkF m pc L (.int x :: .int j :: .ref a :: S)) rfl rfl hd
  have hP := Fr.snoc X' N hg
  rw [(idx hj).2] at W'
  exact (k T' h' ⟨⟨hx, rfl, rfl, hown, hnm, rfl, hlk, hZ, hn0⟩, _, X', e', hP⟩ W').via st
theorem arraylength (P : Pos Z y bytes maxL ret n0 p l e R s m args below meth c T h cells slots) {a : Addr} {n : Nat} {f : Nat → Int32} {ty : FieldType} {z : Int32} (A : Ints Z h a ty n f) (hz : z.toInt = (n : Int)) (hd : decode bytes pc = .ok (.arraylength, 1)) (hp : pc + 1 = pc') (k : Goes p e below s n0 kc ks Q (T.setTop (mkF m pc' L (.int z :: S)))) : Goes p e below s n0 kc ks Q (T.setTop (mkF m pc L (.ref a :: S))) := by
  obtain ⟨⟨hx, rfl, rfl, hown, hnm, rfl, hlk, hZ, hn0⟩, locs, X, rfl, N⟩ := P
  subst hp
  obtain ⟨hn, cl, Ar, sz, r⟩ := A
  have e' : cl.slots.size.toInt32 = z := by rw [sz, ← (idx hz).2]; exact (back32 (idx hz).1).1
  exact k.via fun t q => X.arraylength hx Ar.1 (State.isArrayOf_alike hZ.alike Ar.2.1) (g := mkF m pc L (.ref a :: S)) rfl rfl hd _ (by rw [e']; exact q)
theorem newarray (P : Pos Z y bytes maxL ret n0 p l e R s m args below meth c T h cells slots) {aty : ArrayType} {z : Int32} {N cap cells' slots' : Nat} (w : (Jvm.Cond.arrayClass (newarray.typeOf aty)).before a0 Z = true) (hdv : defaultValue (newarray.typeOf aty) = .int 0) (hz : z.toInt = (N : Int)) (hcap : N ≤ cap) (hb : cap * 8 ≤ 536870912) (hd : decode bytes pc = .ok (.newarray aty, 2)) (hc : cells + 1 = cells') (hs : slots + cap = slots') (hc' : cells' ≤ R.cells) (hs' : slots' ≤ R.slots) (hp : pc + 2 = pc') (k : ∀ T' h' b, b = h.size → n0 ≤ b → Pos Z y bytes maxL ret n0 p l e R s m args below meth c T' h' cells' slots' → Ext h h' → Ints Z h' b (newarray.typeOf aty) N (fun _ => 0) → Goes p e below s n0 kc ks Q (T'.setTop (mkF m pc' L (.ref b :: S)))) : Goes p e below s n0 kc ks Q (T.setTop (mkF m pc L (.int z :: S))) := by
  obtain ⟨⟨hx, rfl, rfl, hown, hnm, rfl, hlk, hZ, hn0⟩, locs, X, rfl, NF⟩ := P
  subst hp hc hs
  obtain ⟨q1, q2⟩ := idx hz
  obtain ⟨T', h', cA, X', e', E', A', st⟩ := newP X hx hZ w rfl (g := mkF m pc L (.int z :: S)) rfl hd rfl q1 (cap := cap) (by omega) hb hc' hs'
  have h32 := (back32 q1).2
  refine (k T' h' _ rfl (Nat.le_trans hn0 X.same.2.1) ⟨⟨hx, rfl, rfl, hown, hnm, rfl, hlk, hZ, hn0⟩, _, X', e', NF⟩ E' ⟨by omega, _, A', by rw [sz_new]; exact q2, fun i hi => ?_⟩).via st
  show (Array.replicate z.toNatClampNeg (defaultValue _))[i]? = some (.int 0)
  rw [hdv, Array.getElem?_replicate, if_pos (by omega)]
theorem top {x x' : Int32} (h : x = x') (k : Goes p e below s n0 kc ks Q (T.setTop (mkF m pc L (.int x' :: S)))) : Goes p e below s n0 kc ks Q (T.setTop (mkF m pc L (.int x :: S))) := by subst h; exact k
theorem topL {x x' : Int64} (h : x = x') (k : Goes p e below s n0 kc ks Q (T.setTop (mkF m pc L (.long x' :: S)))) : Goes p e below s n0 kc ks Q (T.setTop (mkF m pc L (.long x :: S))) := by subst h; exact k
theorem top1 {x x' : Int32} {u : Value} (h : x = x') (k : Goes p e below s n0 kc ks Q (T.setTop (mkF m pc L (u :: .int x' :: S)))) : Goes p e below s n0 kc ks Q (T.setTop (mkF m pc L (u :: .int x :: S))) := by subst h; exact k
theorem lswHit (P : Pos Z y bytes maxL ret n0 p l e R s m args below meth c T h cells slots) {x : Int32} {df a off : Int} {pairs : Array (Int × Int)} {len : Nat} (hd : decode bytes pc = .ok (.lookupswitch df pairs, len)) (hs : (pairs.toList.zip (pairs.toList.drop 1)).all (fun (a, next) => a.1 < next.1) = true) (hf : pairs.find? (·.1 == x.toInt) = some (a, off)) (ho : 0 ≤ (pc : Int) + off) (hp : ((pc : Int) + off).toNat = pc') (k : Goes p e below s n0 kc ks Q (T.setTop (mkF m pc' L S))) : Goes p e below s n0 kc ks Q (T.setTop (mkF m pc L (.int x :: S))) := by
  obtain ⟨⟨hx, rfl, rfl, hown, hnm, rfl, hlk, hZ, hn0⟩, locs, X, rfl, N⟩ := P
  subst hp
  exact k.via fun t q => X.lookupswitchHit hx (g := mkF m pc L (.int x :: S)) rfl rfl hd hs hf ho _ q
theorem lswMiss (P : Pos Z y bytes maxL ret n0 p l e R s m args below meth c T h cells slots) {x : Int32} {df : Int} {pairs : Array (Int × Int)} {len : Nat} (hd : decode bytes pc = .ok (.lookupswitch df pairs, len)) (hs : (pairs.toList.zip (pairs.toList.drop 1)).all (fun (a, next) => a.1 < next.1) = true) (hf : ∀ q ∈ pairs.toList, q.1 ≠ x.toInt) (ho : 0 ≤ (pc : Int) + df) (hp : ((pc : Int) + df).toNat = pc') (k : Goes p e below s n0 kc ks Q (T.setTop (mkF m pc' L S))) : Goes p e below s n0 kc ks Q (T.setTop (mkF m pc L (.int x :: S))) := by
  obtain ⟨⟨hx, rfl, rfl, hown, hnm, rfl, hlk, hZ, hn0⟩, locs, X, rfl, N⟩ := P
  subst hp
  exact k.via fun t q => X.lookupswitchMiss hx (g := mkF m pc L (.int x :: S)) rfl rfl hd hs (find_miss hf) ho _ q
theorem tswIn (P : Pos Z y bytes maxL ret n0 p l e R s m args below meth c T h cells slots) {x : Int32} {df lo hi off : Int} {offs : Array Int} {len : Nat} (hd : decode bytes pc = .ok (.tableswitch df lo hi offs, len)) (hin : ¬ (x.toInt < lo ∨ x.toInt > hi)) (hf : offs[(x.toInt - lo).toNat]? = some off) (ho : 0 ≤ (pc : Int) + off) (hp : ((pc : Int) + off).toNat = pc') (k : Goes p e below s n0 kc ks Q (T.setTop (mkF m pc' L S))) : Goes p e below s n0 kc ks Q (T.setTop (mkF m pc L (.int x :: S))) := by
  obtain ⟨⟨hx, rfl, rfl, hown, hnm, rfl, hlk, hZ, hn0⟩, locs, X, rfl, N⟩ := P
  exact k.via fun t q => XS.tswIn X.here hx rfl (pc0 := pc) (pc' := pc') rfl hd rfl hin hf ho hp q
end Plain
end G
end Jvm.OwnW
namespace Jvm.Pilot.@@N@@
open Jvm Jvm.ClassFile Sem Op Lib Jvm.Free Jvm.Stand Jvm.LawKit Jvm.RoadKit Jvm.OwnW Bundle Jvm.Pilot.@@N@@.Jvm.D
theorem wd {Z : State} {a0 : Array Value} (hw : ∀ d ∈ tables_1, d.before a0 Z = true) {i : Nat} {d : Jvm.Cond} (h : tables_1[i]? = some d) : d.before a0 Z = true := hw _ (List.mem_of_getElem? h)
theorem d1_0 : decode prog_12_method_4_code 0 = .ok (.iload_n 0, 1) := by decide +kernel
theorem d1_1 : decode prog_12_method_4_code 1 = .ok (.ifCond .eq 17, 3) := by decide +kernel
theorem d1_4 : decode prog_12_method_4_code 4 = .ok (.iload_n 1, 1) := by decide +kernel
theorem d1_5 : decode prog_12_method_4_code 5 = .ok (.ifCond .ne 7, 3) := by decide +kernel
theorem d1_8 : decode prog_12_method_4_code 8 = .ok (.iload_n 2, 1) := by decide +kernel
theorem d1_9 : decode prog_12_method_4_code 9 = .ok (.ifCond .ne 9, 3) := by decide +kernel
theorem d1_12 : decode prog_12_method_4_code 12 = .ok (.bipush 83, 2) := by decide +kernel
theorem d1_14 : decode prog_12_method_4_code 14 = .ok (.istore_n 3, 1) := by decide +kernel
theorem d1_15 : decode prog_12_method_4_code 15 = .ok (.goto 26, 3) := by decide +kernel
theorem d1_18 : decode prog_12_method_4_code 18 = .ok (.iload_n 1, 1) := by decide +kernel
theorem d1_19 : decode prog_12_method_4_code 19 = .ok (.ifCond .eq 9, 3) := by decide +kernel
theorem d1_22 : decode prog_12_method_4_code 22 = .ok (.bipush 80, 2) := by decide +kernel
theorem d1_24 : decode prog_12_method_4_code 24 = .ok (.istore_n 3, 1) := by decide +kernel
theorem d1_25 : decode prog_12_method_4_code 25 = .ok (.goto 16, 3) := by decide +kernel
theorem d1_28 : decode prog_12_method_4_code 28 = .ok (.iload_n 2, 1) := by decide +kernel
theorem d1_29 : decode prog_12_method_4_code 29 = .ok (.ifCond .eq 9, 3) := by decide +kernel
theorem d1_32 : decode prog_12_method_4_code 32 = .ok (.bipush 79, 2) := by decide +kernel
theorem d1_34 : decode prog_12_method_4_code 34 = .ok (.istore_n 3, 1) := by decide +kernel
theorem d1_35 : decode prog_12_method_4_code 35 = .ok (.goto 6, 3) := by decide +kernel
theorem d1_38 : decode prog_12_method_4_code 38 = .ok (.bipush 83, 2) := by decide +kernel
theorem d1_40 : decode prog_12_method_4_code 40 = .ok (.istore_n 3, 1) := by decide +kernel
theorem d1_41 : decode prog_12_method_4_code 41 = .ok (.iload_n 3, 1) := by decide +kernel
theorem d1_42 : decode prog_12_method_4_code 42 = .ok (.ireturn, 1) := by decide +kernel
theorem pn_1 : plainName "com/example/rila/rila/store/StoreKeys" = true := by first | (simp [plainName, overriddenIn]; done) | decide +kernel
theorem pd_1 : parseMethodDescriptor "(ZZZ)B" = some ⟨[.boolean, .boolean, .boolean], some .byte⟩ := by decide +kernel
def f1 (p0 : Int32) (p1 : Int32) (p2 : Int32) : Int32 := nar .byte (if p0 = 0 then (if p1 = 0 then (if p2 = 0 then (83 : Int32) else (79 : Int32)) else (80 : Int32)) else (if p1 = 0 then (if p2 = 0 then (83 : Int32) else (79 : Int32)) else (83 : Int32)))
abbrev room1 : Room := { frames := 0, cells := 0, slots := 0, locals := 0 }
def Q1 (p0 : Int32) (p1 : Int32) (p2 : Int32) (h0 : Heap) (vv : Option Value) (hh : Heap) : Prop := vv = some (.int (f1 p0 p1 p2)) ∧ h0 = hh
theorem ef_1 (m : MethodId) (p0 : Int32) (p1 : Int32) (p2 : Int32) : entryFrame m #[(.int p0), (.int p1), (.int p2)] 4 = mkF m 0 #[.val (.int p0), .val (.int p1), .val (.int p2), .unset] [] := by first | (simp [entryFrame, mkF, argsToLocals, Value.category]; done) | rfl
set_option maxRecDepth 65536 in
set_option maxHeartbeats 40000000 in
theorem rm1 {l : Launch} {Z : State} {aw : Array Value} (hw : ∀ d ∈ tables_1, d.before aw Z = true) {n0 : Nat} (p0 : Int32) (p1 : Int32) (p2 : Int32) (h0 : Heap) (hn0 : n0 ≤ h0.size) :
    Con l Z (⟨"com/example/rila/rila/store/StoreKeys", "order", "(ZZZ)B"⟩ : MethodName) prog_12_method_4_code 4 (some .byte) room1 n0 #[(.int p0), (.int p1), (.int p2)] h0 (Q1 p0 p1 p2 h0) := by
  refine Con.body (plainFor_of_name pn_1) hn0 (fun m => ef_1 m p0 p1 p2) ?_
  intro p e s m below meth c T P
  refine G.iloadN P d1_0 rfl (pc' := 1) rfl ?_
  have J41_1 : ∀ (z1 : Int32), z1 = (if p0 = 0 then (if p1 = 0 then (if p2 = 0 then (83 : Int32) else (79 : Int32)) else (80 : Int32)) else (if p1 = 0 then (if p2 = 0 then (83 : Int32) else (79 : Int32)) else (83 : Int32))) → Goes p e below s n0 room1.cells room1.slots (Q1 p0 p1 p2 h0) (T.setTop (mkF m 41 #[.val (.int p0), .val (.int p1), .val (.int p2), .val (.int z1)] [])) := by
    intro z1 hz1
    refine G.iloadN P d1_41 rfl (pc' := 42) rfl ?_
    exact G.ireturnN P (t := .byte) rfl (by simp) rfl d1_42 (by decide) (by decide) ⟨by subst hz1; simp only [f1], rfl⟩
  refine G.if_eq P d1_1 (by decide) (pcY := 18) (by decide) (pcN := 4) rfl (fun c1 => ?_) (fun c1 => ?_)
  · refine G.iloadN P d1_18 rfl (pc' := 19) rfl ?_
    refine G.if_eq P d1_19 (by decide) (pcY := 28) (by decide) (pcN := 22) rfl (fun c19 => ?_) (fun c19 => ?_)
    · refine G.iloadN P d1_28 rfl (pc' := 29) rfl ?_
      refine G.if_eq P d1_29 (by decide) (pcY := 38) (by decide) (pcN := 32) rfl (fun c29 => ?_) (fun c29 => ?_)
      · refine G.bipush P d1_38 (v := (83 : Int32)) rfl (pc' := 40) rfl ?_
        refine G.istoreN P d1_40 rfl (L' := #[.val (.int p0), .val (.int p1), .val (.int p2), .val (.int (83 : Int32))]) rfl (pc' := 41) rfl ?_
        exact J41_1 _ (by simp only [if_pos c1, if_pos c19, if_pos c29])
      · refine G.bipush P d1_32 (v := (79 : Int32)) rfl (pc' := 34) rfl ?_
        refine G.istoreN P d1_34 rfl (L' := #[.val (.int p0), .val (.int p1), .val (.int p2), .val (.int (79 : Int32))]) rfl (pc' := 35) rfl ?_
        refine G.goto P d1_35 (by decide) (pc' := 41) (by decide) ?_
        exact J41_1 _ (by simp only [if_pos c1, if_pos c19, if_neg c29])
    · refine G.bipush P d1_22 (v := (80 : Int32)) rfl (pc' := 24) rfl ?_
      refine G.istoreN P d1_24 rfl (L' := #[.val (.int p0), .val (.int p1), .val (.int p2), .val (.int (80 : Int32))]) rfl (pc' := 25) rfl ?_
      refine G.goto P d1_25 (by decide) (pc' := 41) (by decide) ?_
      exact J41_1 _ (by simp only [if_pos c1, if_neg c19])
  · refine G.iloadN P d1_4 rfl (pc' := 5) rfl ?_
    refine G.if_ne P d1_5 (by decide) (pcY := 12) (by decide) (pcN := 8) rfl (fun c5 => ?_) (fun c5 => ?_)
    · refine G.bipush P d1_12 (v := (83 : Int32)) rfl (pc' := 14) rfl ?_
      refine G.istoreN P d1_14 rfl (L' := #[.val (.int p0), .val (.int p1), .val (.int p2), .val (.int (83 : Int32))]) rfl (pc' := 15) rfl ?_
      refine G.goto P d1_15 (by decide) (pc' := 41) (by decide) ?_
      exact J41_1 _ (by simp only [if_neg c1, if_neg c5])
    · refine G.iloadN P d1_8 rfl (pc' := 9) rfl ?_
      refine G.if_ne P d1_9 (by decide) (pcY := 18) (by decide) (pcN := 12) rfl (fun c9 => ?_) (fun c9 => ?_)
      · refine G.iloadN P d1_18 rfl (pc' := 19) rfl ?_
        refine G.if_eq P d1_19 (by decide) (pcY := 28) (by decide) (pcN := 22) rfl (fun _ => ?_) (fun c => absurd c5 c)
        refine G.iloadN P d1_28 rfl (pc' := 29) rfl ?_
        refine G.if_eq P d1_29 (by decide) (pcY := 38) (by decide) (pcN := 32) rfl (fun c => absurd c c9) (fun _ => ?_)
        refine G.bipush P d1_32 (v := (79 : Int32)) rfl (pc' := 34) rfl ?_
        refine G.istoreN P d1_34 rfl (L' := #[.val (.int p0), .val (.int p1), .val (.int p2), .val (.int (79 : Int32))]) rfl (pc' := 35) rfl ?_
        refine G.goto P d1_35 (by decide) (pc' := 41) (by decide) ?_
        exact J41_1 _ (by simp only [if_neg c1, if_pos c5, if_neg c9])
      · refine G.bipush P d1_12 (v := (83 : Int32)) rfl (pc' := 14) rfl ?_
        refine G.istoreN P d1_14 rfl (L' := #[.val (.int p0), .val (.int p1), .val (.int p2), .val (.int (83 : Int32))]) rfl (pc' := 15) rfl ?_
        refine G.goto P d1_15 (by decide) (pc' := 41) (by decide) ?_
        exact J41_1 _ (by simp only [if_neg c1, if_pos c5, if_pos c9])
theorem d2_0 : decode prog_12_method_3_code 0 = .ok (.iload_n 0, 1) := by decide +kernel
theorem d2_1 : decode prog_12_method_3_code 1 = .ok (.tableswitch 47 79 83 #[43, 39, 47, 47, 35], 35) := by decide +kernel
theorem d2_36 : decode prog_12_method_3_code 36 = .ok (.iconst 0, 1) := by decide +kernel
theorem d2_37 : decode prog_12_method_3_code 37 = .ok (.goto 25, 3) := by decide +kernel
theorem d2_40 : decode prog_12_method_3_code 40 = .ok (.iconst 1, 1) := by decide +kernel
theorem d2_41 : decode prog_12_method_3_code 41 = .ok (.goto 21, 3) := by decide +kernel
theorem d2_44 : decode prog_12_method_3_code 44 = .ok (.iconst 2, 1) := by decide +kernel
theorem d2_45 : decode prog_12_method_3_code 45 = .ok (.goto 17, 3) := by decide +kernel
theorem d2_48 : decode prog_12_method_3_code 48 = .ok (.new 18, 3) := by decide +kernel
theorem d2_51 : decode prog_12_method_3_code 51 = .ok (.dup, 1) := by decide +kernel
theorem d2_52 : decode prog_12_method_3_code 52 = .ok (.iload_n 0, 1) := by decide +kernel
theorem d2_58 : decode prog_12_method_3_code 58 = .ok (.invokespecial 24, 3) := by decide +kernel
theorem d2_61 : decode prog_12_method_3_code 61 = .ok (.athrow, 1) := by decide +kernel
theorem d2_62 : decode prog_12_method_3_code 62 = .ok (.istore_n 2, 1) := by decide +kernel
theorem d2_63 : decode prog_12_method_3_code 63 = .ok (.iload_n 2, 1) := by decide +kernel
theorem d2_64 : decode prog_12_method_3_code 64 = .ok (.iload_n 1, 1) := by decide +kernel
theorem d2_65 : decode prog_12_method_3_code 65 = .ok (.iadd, 1) := by decide +kernel
theorem d2_66 : decode prog_12_method_3_code 66 = .ok (.iconst 3, 1) := by decide +kernel
theorem d2_67 : decode prog_12_method_3_code 67 = .ok (.irem, 1) := by decide +kernel
theorem d2_68 : decode prog_12_method_3_code 68 = .ok (.ireturn, 1) := by decide +kernel
theorem pn_2 : plainName "com/example/rila/rila/store/StoreKeys" = true := by first | (simp [plainName, overriddenIn]; done) | decide +kernel
theorem pd_2 : parseMethodDescriptor "(BI)I" = some ⟨[.byte, .int], some .int⟩ := by decide +kernel
def f2 (p0 : Int32) (p1 : Int32) : Int32 := (if p0 = (79 : Int32) then (((2 : Int32) + p1) % (3 : Int32)) else (if p0 = (80 : Int32) then (((1 : Int32) + p1) % (3 : Int32)) else (((0 : Int32) + p1) % (3 : Int32))))
abbrev room2 : Room := { frames := 0, cells := 0, slots := 0, locals := 0 }
def Q2 (p0 : Int32) (p1 : Int32) (h0 : Heap) (vv : Option Value) (hh : Heap) : Prop := vv = some (.int (f2 p0 p1)) ∧ h0 = hh
theorem ef_2 (m : MethodId) (p0 : Int32) (p1 : Int32) : entryFrame m #[(.int p0), (.int p1)] 3 = mkF m 0 #[.val (.int p0), .val (.int p1), .unset] [] := by first | (simp [entryFrame, mkF, argsToLocals, Value.category]; done) | rfl
set_option maxRecDepth 65536 in
set_option maxHeartbeats 40000000 in
theorem rm2 {l : Launch} {Z : State} {aw : Array Value} (hw : ∀ d ∈ tables_1, d.before aw Z = true) {n0 : Nat} (p0 : Int32) (p1 : Int32) (h0 : Heap) (hp : p0 = (83 : Int32) ∨ p0 = (80 : Int32) ∨ p0 = (79 : Int32)) (hn0 : n0 ≤ h0.size) :
    Con l Z (⟨"com/example/rila/rila/store/StoreKeys", "termAt", "(BI)I"⟩ : MethodName) prog_12_method_3_code 3 (some .int) room2 n0 #[(.int p0), (.int p1)] h0 (Q2 p0 p1 h0) := by
  refine Con.body (plainFor_of_name pn_2) hn0 (fun m => ef_2 m p0 p1) ?_
  intro p e s m below meth c T P
  refine G.iloadN P d2_0 rfl (pc' := 1) rfl ?_
  by_cases k1_79 : p0 = (79 : Int32)
  · refine G.tswIn P d2_1 (off := 43) (by rw [k1_79]; decide) (by rw [k1_79]; decide) (by decide) (pc' := 44) (by decide) ?_
    refine G.iconst P d2_44 (v := (2 : Int32)) rfl (pc' := 45) rfl ?_
    refine G.goto P d2_45 (by decide) (pc' := 62) (by decide) ?_
    refine G.istoreN P d2_62 rfl (L' := #[.val (.int p0), .val (.int p1), .val (.int (2 : Int32))]) rfl (pc' := 63) rfl ?_
    refine G.iloadN P d2_63 rfl (pc' := 64) rfl ?_
    refine G.iloadN P d2_64 rfl (pc' := 65) rfl ?_
    refine G.iadd P d2_65 (pc' := 66) rfl ?_
    refine G.iconst P d2_66 (v := (3 : Int32)) rfl (pc' := 67) rfl ?_
    refine G.irem P d2_67 (by decide) (pc' := 68) rfl ?_
    exact G.ireturn P rfl d2_68 (by decide) (by decide) ⟨by simp only [f2, if_pos k1_79], rfl⟩
  by_cases k1_80 : p0 = (80 : Int32)
  · refine G.tswIn P d2_1 (off := 39) (by rw [k1_80]; decide) (by rw [k1_80]; decide) (by decide) (pc' := 40) (by decide) ?_
    refine G.iconst P d2_40 (v := (1 : Int32)) rfl (pc' := 41) rfl ?_
    refine G.goto P d2_41 (by decide) (pc' := 62) (by decide) ?_
    refine G.istoreN P d2_62 rfl (L' := #[.val (.int p0), .val (.int p1), .val (.int (1 : Int32))]) rfl (pc' := 63) rfl ?_
    refine G.iloadN P d2_63 rfl (pc' := 64) rfl ?_
    refine G.iloadN P d2_64 rfl (pc' := 65) rfl ?_
    refine G.iadd P d2_65 (pc' := 66) rfl ?_
    refine G.iconst P d2_66 (v := (3 : Int32)) rfl (pc' := 67) rfl ?_
    refine G.irem P d2_67 (by decide) (pc' := 68) rfl ?_
    exact G.ireturn P rfl d2_68 (by decide) (by decide) ⟨by simp only [f2, if_neg k1_79, if_pos k1_80], rfl⟩
  by_cases k1_81 : p0 = (81 : Int32)
  · refine G.tswIn P d2_1 (off := 47) (by rw [k1_81]; decide) (by rw [k1_81]; decide) (by decide) (pc' := 48) (by decide) ?_
    exact absurd hp (by first | (rw [k1_81]; decide) | (rw [k1_82]; decide))
  by_cases k1_82 : p0 = (82 : Int32)
  · refine G.tswIn P d2_1 (off := 47) (by rw [k1_82]; decide) (by rw [k1_82]; decide) (by decide) (pc' := 48) (by decide) ?_
    exact absurd hp (by first | (rw [k1_81]; decide) | (rw [k1_82]; decide))
  by_cases k1_83 : p0 = (83 : Int32)
  · refine G.tswIn P d2_1 (off := 35) (by rw [k1_83]; decide) (by rw [k1_83]; decide) (by decide) (pc' := 36) (by decide) ?_
    refine G.iconst P d2_36 (v := (0 : Int32)) rfl (pc' := 37) rfl ?_
    refine G.goto P d2_37 (by decide) (pc' := 62) (by decide) ?_
    refine G.istoreN P d2_62 rfl (L' := #[.val (.int p0), .val (.int p1), .val (.int (0 : Int32))]) rfl (pc' := 63) rfl ?_
    refine G.iloadN P d2_63 rfl (pc' := 64) rfl ?_
    refine G.iloadN P d2_64 rfl (pc' := 65) rfl ?_
    refine G.iadd P d2_65 (pc' := 66) rfl ?_
    refine G.iconst P d2_66 (v := (3 : Int32)) rfl (pc' := 67) rfl ?_
    refine G.irem P d2_67 (by decide) (pc' := 68) rfl ?_
    exact G.ireturn P rfl d2_68 (by decide) (by decide) ⟨by simp only [f2, if_neg k1_79, if_neg k1_80, if_neg k1_81, if_neg k1_82, if_pos k1_83], rfl⟩
  exact absurd hp (fun q => q.elim k1_83 (fun q => q.elim k1_80 k1_79))
theorem own_ord (a b c : Int32) : f1 a b c = 83 ∨ f1 a b c = 80 ∨ f1 a b c = 79 := by
  simp only [f1]
  repeat' split
  all_goals decide
theorem own_bit (c : Prop) [Decidable c] (z : Int32) (h : z = (if c then (0 : Int32) else (1 : Int32))) : z = 0 ∨ z = 1 := by
  by_cases q : c
  · rw [if_pos q] at h; exact Or.inl h
  · rw [if_neg q] at h; exact Or.inr h
theorem pn_0 : plainName "com/example/rila/rila/store/StoreKeysOrderPinLaw" = true := by first | (simp [plainName, overriddenIn]; done) | decide +kernel
theorem pd_0 : parseMethodDescriptor "(I)Z" = some ⟨[.int], some .boolean⟩ := by decide +kernel
def Q0 (Z : State) (p0 : Int32) (h0 : Heap) (vv : Option Value) (hh : Heap) : Prop := vv = some (.int 1) ∧ True
theorem ef_0 (m : MethodId) (p0 : Int32) : entryFrame m #[(.int p0)] maxLocals = mkF m 0 #[.val (.int p0), .unset, .unset, .unset, .unset, .unset, .unset, .unset, .unset, .unset] [] := by first | (simp [entryFrame, mkF, argsToLocals, Value.category, maxLocals]; done) | rfl
set_option maxRecDepth 65536 in
set_option maxHeartbeats 40000000 in
theorem rm0 {l : Launch} {Z : State} {aw : Array Value} (hw : ∀ d ∈ tables_1, d.before aw Z = true) {n0 : Nat} (p0 : Int32) (h0 : Heap) (hn0 : n0 ≤ h0.size) :
    Con l Z x code maxLocals ret room_1 n0 #[(.int p0)] h0 (Q0 Z p0 h0) := by
  refine Con.body (plainFor_of_name pn_0) hn0 (fun m => ef_0 m p0) ?_
  intro p e s m below meth c T P
  refine G.iloadN P at_0 rfl (pc' := 1) rfl ?_
  refine G.iconst P at_1 (v := (1 : Int32)) rfl (pc' := 2) rfl ?_
  refine G.iand P at_2 (pc' := 3) rfl ?_
  have J11_3 : ∀ (z2 : Int32), z2 = (if (p0 &&& (1 : Int32)) = 0 then (0 : Int32) else (1 : Int32)) → Goes p e below s n0 room_1.cells room_1.slots (Q0 Z p0 h0) (T.setTop (mkF m 11 #[.val (.int p0), .unset, .unset, .unset, .unset, .unset, .unset, .unset, .unset, .unset] [(.int z2)])) := by
    intro z2 hz2
    refine G.istoreN P at_11 rfl (L' := #[.val (.int p0), .val (.int z2), .unset, .unset, .unset, .unset, .unset, .unset, .unset, .unset]) rfl (pc' := 12) rfl ?_
    refine G.iloadN P at_12 rfl (pc' := 13) rfl ?_
    refine G.iconst P at_13 (v := (2 : Int32)) rfl (pc' := 14) rfl ?_
    refine G.iand P at_14 (pc' := 15) rfl ?_
    have J23_15 : ∀ (z3 : Int32), z3 = (if (p0 &&& (2 : Int32)) = 0 then (0 : Int32) else (1 : Int32)) → Goes p e below s n0 room_1.cells room_1.slots (Q0 Z p0 h0) (T.setTop (mkF m 23 #[.val (.int p0), .val (.int z2), .unset, .unset, .unset, .unset, .unset, .unset, .unset, .unset] [(.int z3)])) := by
      intro z3 hz3
      refine G.istoreN P at_23 rfl (L' := #[.val (.int p0), .val (.int z2), .val (.int z3), .unset, .unset, .unset, .unset, .unset, .unset, .unset]) rfl (pc' := 24) rfl ?_
      refine G.iloadN P at_24 rfl (pc' := 25) rfl ?_
      refine G.iconst P at_25 (v := (4 : Int32)) rfl (pc' := 26) rfl ?_
      refine G.iand P at_26 (pc' := 27) rfl ?_
      have J35_27 : ∀ (z4 : Int32), z4 = (if (p0 &&& (4 : Int32)) = 0 then (0 : Int32) else (1 : Int32)) → Goes p e below s n0 room_1.cells room_1.slots (Q0 Z p0 h0) (T.setTop (mkF m 35 #[.val (.int p0), .val (.int z2), .val (.int z3), .unset, .unset, .unset, .unset, .unset, .unset, .unset] [(.int z4)])) := by
        intro z4 hz4
        refine G.istoreN P at_35 rfl (L' := #[.val (.int p0), .val (.int z2), .val (.int z3), .val (.int z4), .unset, .unset, .unset, .unset, .unset, .unset]) rfl (pc' := 36) rfl ?_
        refine G.iloadN P at_36 rfl (pc' := 37) rfl ?_
        refine G.iloadN P at_37 rfl (pc' := 38) rfl ?_
        refine G.iloadN P at_38 rfl (pc' := 39) rfl ?_
        refine G.callS P (wd hw (i := 0) rfl) (wd hw (i := 1) rfl) (wd hw (i := 2) rfl) (wd hw (i := 3) rfl) (by decide) (argsL := [(.int z2), (.int z3), (.int z4)]) (rm1 hw z2 z3 z4 h0 P.sz) (by decide) (by decide) (cells' := 0) rfl (slots' := 0) rfl (by decide) (by decide) (lenOf pd_1 rfl) rfl (rest := []) rfl (W := 0) (Nat.le_of_eq rfl) at_39 (pc' := 42) rfl ?_
        rintro T _ _ P ⟨rfl, rfl⟩
        show Goes p e below s n0 room_1.cells room_1.slots (Q0 Z p0 h0) (T.setTop (mkF m 42 #[.val (.int p0), .val (.int z2), .val (.int z3), .val (.int z4), .unset, .unset, .unset, .unset, .unset, .unset] [(.int (f1 z2 z3 z4))]))
        generalize hr5 : (f1 z2 z3 z4) = r5
        refine G.istore P at_42 rfl (L' := #[.val (.int p0), .val (.int z2), .val (.int z3), .val (.int z4), .val (.int r5), .unset, .unset, .unset, .unset, .unset]) rfl (pc' := 44) rfl ?_
        have hb1 := own_bit _ _ hz2
        have hb2 := own_bit _ _ hz3
        have hb3 := own_bit _ _ hz4
        clear hz2 hz3 hz4
        rcases (hr5 ▸ own_ord _ _ _ : r5 = 83 ∨ r5 = 80 ∨ r5 = 79) with q | q | q
        · subst q
          refine G.iload P at_44 rfl (pc' := 46) rfl ?_
          refine G.bipush P at_46 (v := (83 : Int32)) rfl (pc' := 48) rfl ?_
          refine G.icmp_eq P at_48 (by decide) (pcY := 67) (by decide) (pcN := 51) rfl (fun _ => ?_) (fun c => absurd c (by decide))
          refine G.iconst P at_67 (v := (3 : Int32)) rfl (pc' := 68) rfl ?_
          refine G.newarray P (wd hw (i := 4) rfl) rfl (N := 3) (by decide) (cap := 3) (Nat.le_refl _) (by decide) at_68 (cells' := 1) rfl (slots' := 3) rfl (by decide) (by decide) (pc' := 70) rfl ?_
          intro T h6 b6 hb6 g_b6 P E6 A6
          replace A6 : Ints Z h6 b6 .boolean 3 (fun _ => 0) := A6
          replace A6 := Ints.congr (g := (lst [(0 : Int32), (0 : Int32), (0 : Int32)])) A6 (fun i hi => by match i, hi with | 0, _ => rfl | 1, _ => rfl | 2, _ => rfl | k + 3, h => exact absurd h (by omega))
          refine G.astore P at_70 rfl (L' := #[.val (.int p0), .val (.int z2), .val (.int z3), .val (.int z4), .val (.int (83 : Int32)), .val (.ref b6), .unset, .unset, .unset, .unset]) rfl (pc' := 72) rfl ?_
          refine G.aload P at_72 rfl rfl (pc' := 74) rfl ?_
          refine G.iconst P at_74 (v := (0 : Int32)) rfl (pc' := 75) rfl ?_
          refine G.iloadN P at_75 rfl (pc' := 76) rfl ?_
          refine G.zastore P A6 (i := 0) (by decide) (by decide) g_b6 at_76 (pc' := 77) rfl ?_
          intro T h8 P W7
          replace A6 := A6.same W7
          obtain ⟨x10, hx10⟩ : ∃ z : Int32, (nar .boolean z2) = z := ⟨_, rfl⟩
          rw [hx10] at A6
          replace A6 := Ints.congr (g := (lst [x10, (0 : Int32), (0 : Int32)])) A6 (fun i hi => by match i, hi with | 0, _ => rfl | 1, _ => rfl | 2, _ => rfl | k + 3, h => exact absurd h (by omega))
          refine G.aload P at_77 rfl rfl (pc' := 79) rfl ?_
          refine G.iconst P at_79 (v := (1 : Int32)) rfl (pc' := 80) rfl ?_
          refine G.iloadN P at_80 rfl (pc' := 81) rfl ?_
          refine G.zastore P A6 (i := 1) (by decide) (by decide) g_b6 at_81 (pc' := 82) rfl ?_
          intro T h12 P W11
          replace A6 := A6.same W11
          obtain ⟨x14, hx14⟩ : ∃ z : Int32, (nar .boolean z3) = z := ⟨_, rfl⟩
          rw [hx14] at A6
          replace A6 := Ints.congr (g := (lst [x10, x14, (0 : Int32)])) A6 (fun i hi => by match i, hi with | 0, _ => rfl | 1, _ => rfl | 2, _ => rfl | k + 3, h => exact absurd h (by omega))
          refine G.aload P at_82 rfl rfl (pc' := 84) rfl ?_
          refine G.iconst P at_84 (v := (2 : Int32)) rfl (pc' := 85) rfl ?_
          refine G.iloadN P at_85 rfl (pc' := 86) rfl ?_
          refine G.zastore P A6 (i := 2) (by decide) (by decide) g_b6 at_86 (pc' := 87) rfl ?_
          intro T h16 P W15
          replace A6 := A6.same W15
          obtain ⟨x18, hx18⟩ : ∃ z : Int32, (nar .boolean z4) = z := ⟨_, rfl⟩
          rw [hx18] at A6
          replace A6 := Ints.congr (g := (lst [x10, x14, x18])) A6 (fun i hi => by match i, hi with | 0, _ => rfl | 1, _ => rfl | 2, _ => rfl | k + 3, h => exact absurd h (by omega))
          refine G.iloadN P at_87 rfl (pc' := 88) rfl ?_
          have J96_88 : ∀ (z19 : Int32), z19 = (if z2 = 0 then (0 : Int32) else (1 : Int32)) → Goes p e below s n0 room_1.cells room_1.slots (Q0 Z p0 h0) (T.setTop (mkF m 96 #[.val (.int p0), .val (.int z2), .val (.int z3), .val (.int z4), .val (.int (83 : Int32)), .val (.ref b6), .unset, .unset, .unset, .unset] [(.int z19)])) := by
            intro z19 hz19
            refine G.iloadN P at_96 rfl (pc' := 97) rfl ?_
            have J105_97 : ∀ (z20 : Int32), z20 = (if z3 = 0 then (0 : Int32) else (1 : Int32)) → Goes p e below s n0 room_1.cells room_1.slots (Q0 Z p0 h0) (T.setTop (mkF m 105 #[.val (.int p0), .val (.int z2), .val (.int z3), .val (.int z4), .val (.int (83 : Int32)), .val (.ref b6), .unset, .unset, .unset, .unset] [(.int z20), (.int z19)])) := by
              intro z20 hz20
              refine G.iadd P at_105 (pc' := 106) rfl ?_
              refine G.iloadN P at_106 rfl (pc' := 107) rfl ?_
              have J115_107 : ∀ (z21 : Int32), z21 = (if z4 = 0 then (0 : Int32) else (1 : Int32)) → Goes p e below s n0 room_1.cells room_1.slots (Q0 Z p0 h0) (T.setTop (mkF m 115 #[.val (.int p0), .val (.int z2), .val (.int z3), .val (.int z4), .val (.int (83 : Int32)), .val (.ref b6), .unset, .unset, .unset, .unset] [(.int z21), (.int (z19 + z20))])) := by
                intro z21 hz21
                refine G.iadd P at_115 (pc' := 116) rfl ?_
                obtain ⟨x22, hx22⟩ : ∃ z : Int32, ((z19 + z20) + z21) = z := ⟨_, rfl⟩
                refine G.istore P at_116 hx22 (L' := #[.val (.int p0), .val (.int z2), .val (.int z3), .val (.int z4), .val (.int (83 : Int32)), .val (.ref b6), .val (.int x22), .unset, .unset, .unset]) rfl (pc' := 118) rfl ?_
                refine G.iload P at_118 rfl (pc' := 120) rfl ?_
                refine G.iconst P at_120 (v := (0 : Int32)) rfl (pc' := 121) rfl ?_
                refine G.callS P (wd hw (i := 5) rfl) (wd hw (i := 6) rfl) (wd hw (i := 2) rfl) (wd hw (i := 7) rfl) (by decide) (argsL := [(.int (83 : Int32)), (.int (0 : Int32))]) (rm2 hw (83 : Int32) (0 : Int32) h16 (by decide) P.sz) (by decide) (by decide) (cells' := 1) rfl (slots' := 3) rfl (by decide) (by decide) (lenOf pd_2 rfl) rfl (rest := []) rfl (W := 0) (Nat.le_of_eq rfl) at_121 (pc' := 124) rfl ?_
                rintro T _ _ P ⟨rfl, rfl⟩
                show Goes p e below s n0 room_1.cells room_1.slots (Q0 Z p0 h0) (T.setTop (mkF m 124 #[.val (.int p0), .val (.int z2), .val (.int z3), .val (.int z4), .val (.int (83 : Int32)), .val (.ref b6), .val (.int x22), .unset, .unset, .unset] [(.int (f2 (83 : Int32) (0 : Int32)))]))
                generalize hr23 : (f2 (83 : Int32) (0 : Int32)) = r23
                obtain rfl : (0 : Int32) = r23 := by rw [← hr23]; decide
                refine G.istore P at_124 rfl (L' := #[.val (.int p0), .val (.int z2), .val (.int z3), .val (.int z4), .val (.int (83 : Int32)), .val (.ref b6), .val (.int x22), .val (.int (0 : Int32)), .unset, .unset]) rfl (pc' := 126) rfl ?_
                refine G.iload P at_126 rfl (pc' := 128) rfl ?_
                refine G.iconst P at_128 (v := (1 : Int32)) rfl (pc' := 129) rfl ?_
                refine G.callS P (wd hw (i := 5) rfl) (wd hw (i := 6) rfl) (wd hw (i := 2) rfl) (wd hw (i := 7) rfl) (by decide) (argsL := [(.int (83 : Int32)), (.int (1 : Int32))]) (rm2 hw (83 : Int32) (1 : Int32) h16 (by decide) P.sz) (by decide) (by decide) (cells' := 1) rfl (slots' := 3) rfl (by decide) (by decide) (lenOf pd_2 rfl) rfl (rest := []) rfl (W := 0) (Nat.le_of_eq rfl) at_129 (pc' := 132) rfl ?_
                rintro T _ _ P ⟨rfl, rfl⟩
                show Goes p e below s n0 room_1.cells room_1.slots (Q0 Z p0 h0) (T.setTop (mkF m 132 #[.val (.int p0), .val (.int z2), .val (.int z3), .val (.int z4), .val (.int (83 : Int32)), .val (.ref b6), .val (.int x22), .val (.int (0 : Int32)), .unset, .unset] [(.int (f2 (83 : Int32) (1 : Int32)))]))
                generalize hr24 : (f2 (83 : Int32) (1 : Int32)) = r24
                obtain rfl : (1 : Int32) = r24 := by rw [← hr24]; decide
                refine G.istore P at_132 rfl (L' := #[.val (.int p0), .val (.int z2), .val (.int z3), .val (.int z4), .val (.int (83 : Int32)), .val (.ref b6), .val (.int x22), .val (.int (0 : Int32)), .val (.int (1 : Int32)), .unset]) rfl (pc' := 134) rfl ?_
                refine G.iload P at_134 rfl (pc' := 136) rfl ?_
                refine G.iconst P at_136 (v := (2 : Int32)) rfl (pc' := 137) rfl ?_
                refine G.callS P (wd hw (i := 5) rfl) (wd hw (i := 6) rfl) (wd hw (i := 2) rfl) (wd hw (i := 7) rfl) (by decide) (argsL := [(.int (83 : Int32)), (.int (2 : Int32))]) (rm2 hw (83 : Int32) (2 : Int32) h16 (by decide) P.sz) (by decide) (by decide) (cells' := 1) rfl (slots' := 3) rfl (by decide) (by decide) (lenOf pd_2 rfl) rfl (rest := []) rfl (W := 0) (Nat.le_of_eq rfl) at_137 (pc' := 140) rfl ?_
                rintro T _ _ P ⟨rfl, rfl⟩
                show Goes p e below s n0 room_1.cells room_1.slots (Q0 Z p0 h0) (T.setTop (mkF m 140 #[.val (.int p0), .val (.int z2), .val (.int z3), .val (.int z4), .val (.int (83 : Int32)), .val (.ref b6), .val (.int x22), .val (.int (0 : Int32)), .val (.int (1 : Int32)), .unset] [(.int (f2 (83 : Int32) (2 : Int32)))]))
                generalize hr25 : (f2 (83 : Int32) (2 : Int32)) = r25
                obtain rfl : (2 : Int32) = r25 := by rw [← hr25]; decide
                refine G.istore P at_140 rfl (L' := #[.val (.int p0), .val (.int z2), .val (.int z3), .val (.int z4), .val (.int (83 : Int32)), .val (.ref b6), .val (.int x22), .val (.int (0 : Int32)), .val (.int (1 : Int32)), .val (.int (2 : Int32))]) rfl (pc' := 142) rfl ?_
                refine G.iload P at_142 rfl (pc' := 144) rfl ?_
                refine G.if_lt P at_144 (by decide) (pcY := 175) (by decide) (pcN := 147) rfl (fun c => absurd c (by decide)) (fun _ => ?_)
                refine G.iload P at_147 rfl (pc' := 149) rfl ?_
                refine G.iconst P at_149 (v := (2 : Int32)) rfl (pc' := 150) rfl ?_
                refine G.icmp_gt P at_150 (by decide) (pcY := 175) (by decide) (pcN := 153) rfl (fun c => absurd c (by decide)) (fun _ => ?_)
                refine G.iload P at_153 rfl (pc' := 155) rfl ?_
                refine G.if_lt P at_155 (by decide) (pcY := 175) (by decide) (pcN := 158) rfl (fun c => absurd c (by decide)) (fun _ => ?_)
                refine G.iload P at_158 rfl (pc' := 160) rfl ?_
                refine G.iconst P at_160 (v := (2 : Int32)) rfl (pc' := 161) rfl ?_
                refine G.icmp_gt P at_161 (by decide) (pcY := 175) (by decide) (pcN := 164) rfl (fun c => absurd c (by decide)) (fun _ => ?_)
                refine G.iload P at_164 rfl (pc' := 166) rfl ?_
                refine G.if_lt P at_166 (by decide) (pcY := 175) (by decide) (pcN := 169) rfl (fun c => absurd c (by decide)) (fun _ => ?_)
                refine G.iload P at_169 rfl (pc' := 171) rfl ?_
                refine G.iconst P at_171 (v := (2 : Int32)) rfl (pc' := 172) rfl ?_
                refine G.icmp_le P at_172 (by decide) (pcY := 177) (by decide) (pcN := 175) rfl (fun _ => ?_) (fun c => absurd c (by decide))
                refine G.aload P at_177 rfl rfl (pc' := 179) rfl ?_
                refine G.iload P at_179 rfl (pc' := 181) rfl ?_
                refine G.zaload P A6 (i := 0) (by decide) (by decide) at_181 (pc' := 182) rfl ?_
                show Goes p e below s n0 room_1.cells room_1.slots (Q0 Z p0 h0) (T.setTop (mkF m 182 #[.val (.int p0), .val (.int z2), .val (.int z3), .val (.int z4), .val (.int (83 : Int32)), .val (.ref b6), .val (.int x22), .val (.int (0 : Int32)), .val (.int (1 : Int32)), .val (.int (2 : Int32))] [(.int x10)]))
                refine G.iconst P at_182 (v := (0 : Int32)) rfl (pc' := 183) rfl ?_
                refine G.iload P at_183 rfl (pc' := 185) rfl ?_
                have J193_185 : ∀ (z26 : Int32), z26 = (if (0 : Int32) < x22 then (1 : Int32) else (0 : Int32)) → Goes p e below s n0 room_1.cells room_1.slots (Q0 Z p0 h0) (T.setTop (mkF m 193 #[.val (.int p0), .val (.int z2), .val (.int z3), .val (.int z4), .val (.int (83 : Int32)), .val (.ref b6), .val (.int x22), .val (.int (0 : Int32)), .val (.int (1 : Int32)), .val (.int (2 : Int32))] [(.int z26), (.int x10)])) := by
                  intro z26 hz26
                  refine G.icmp_ne P at_193 (by decide) (pcY := 238) (by decide) (pcN := 196) rfl (fun c193 => ?_) (fun c193 => ?_)
                  · refine G.iconst P at_238 (v := (0 : Int32)) rfl (pc' := 239) rfl ?_
                    subst hx10 hx14 hx18 hz19 hz20 hz21 hx22 hz26
                    clear A6
                    exact G.ireturnN P (t := .boolean) rfl (by simp) rfl at_239 (by decide) (by decide) ⟨congrArg (fun z => some (Value.int z)) (by revert hr5 c193; rcases hb1 with rfl | rfl <;> rcases hb2 with rfl | rfl <;> rcases hb3 with rfl | rfl <;> decide), trivial⟩
                  · refine G.aload P at_196 rfl rfl (pc' := 198) rfl ?_
                    refine G.iload P at_198 rfl (pc' := 200) rfl ?_
                    refine G.zaload P A6 (i := 1) (by decide) (by decide) at_200 (pc' := 201) rfl ?_
                    show Goes p e below s n0 room_1.cells room_1.slots (Q0 Z p0 h0) (T.setTop (mkF m 201 #[.val (.int p0), .val (.int z2), .val (.int z3), .val (.int z4), .val (.int (83 : Int32)), .val (.ref b6), .val (.int x22), .val (.int (0 : Int32)), .val (.int (1 : Int32)), .val (.int (2 : Int32))] [(.int x14)]))
                    refine G.iconst P at_201 (v := (1 : Int32)) rfl (pc' := 202) rfl ?_
                    refine G.iload P at_202 rfl (pc' := 204) rfl ?_
                    have J212_204 : ∀ (z27 : Int32), z27 = (if (1 : Int32) < x22 then (1 : Int32) else (0 : Int32)) → Goes p e below s n0 room_1.cells room_1.slots (Q0 Z p0 h0) (T.setTop (mkF m 212 #[.val (.int p0), .val (.int z2), .val (.int z3), .val (.int z4), .val (.int (83 : Int32)), .val (.ref b6), .val (.int x22), .val (.int (0 : Int32)), .val (.int (1 : Int32)), .val (.int (2 : Int32))] [(.int z27), (.int x14)])) := by
                      intro z27 hz27
                      refine G.icmp_ne P at_212 (by decide) (pcY := 238) (by decide) (pcN := 215) rfl (fun c212 => ?_) (fun c212 => ?_)
                      · refine G.iconst P at_238 (v := (0 : Int32)) rfl (pc' := 239) rfl ?_
                        subst hx10 hx14 hx18 hz19 hz20 hz21 hx22 hz26 hz27
                        clear A6
                        exact G.ireturnN P (t := .boolean) rfl (by simp) rfl at_239 (by decide) (by decide) ⟨congrArg (fun z => some (Value.int z)) (by revert hr5 c193 c212; rcases hb1 with rfl | rfl <;> rcases hb2 with rfl | rfl <;> rcases hb3 with rfl | rfl <;> decide), trivial⟩
                      · refine G.aload P at_215 rfl rfl (pc' := 217) rfl ?_
                        refine G.iload P at_217 rfl (pc' := 219) rfl ?_
                        refine G.zaload P A6 (i := 2) (by decide) (by decide) at_219 (pc' := 220) rfl ?_
                        show Goes p e below s n0 room_1.cells room_1.slots (Q0 Z p0 h0) (T.setTop (mkF m 220 #[.val (.int p0), .val (.int z2), .val (.int z3), .val (.int z4), .val (.int (83 : Int32)), .val (.ref b6), .val (.int x22), .val (.int (0 : Int32)), .val (.int (1 : Int32)), .val (.int (2 : Int32))] [(.int x18)]))
                        refine G.iconst P at_220 (v := (2 : Int32)) rfl (pc' := 221) rfl ?_
                        refine G.iload P at_221 rfl (pc' := 223) rfl ?_
                        have J231_223 : ∀ (z28 : Int32), z28 = (if (2 : Int32) < x22 then (1 : Int32) else (0 : Int32)) → Goes p e below s n0 room_1.cells room_1.slots (Q0 Z p0 h0) (T.setTop (mkF m 231 #[.val (.int p0), .val (.int z2), .val (.int z3), .val (.int z4), .val (.int (83 : Int32)), .val (.ref b6), .val (.int x22), .val (.int (0 : Int32)), .val (.int (1 : Int32)), .val (.int (2 : Int32))] [(.int z28), (.int x18)])) := by
                          intro z28 hz28
                          have J239_231 : ∀ (z29 : Int32), z29 = (if x18 = z28 then (1 : Int32) else (0 : Int32)) → Goes p e below s n0 room_1.cells room_1.slots (Q0 Z p0 h0) (T.setTop (mkF m 239 #[.val (.int p0), .val (.int z2), .val (.int z3), .val (.int z4), .val (.int (83 : Int32)), .val (.ref b6), .val (.int x22), .val (.int (0 : Int32)), .val (.int (1 : Int32)), .val (.int (2 : Int32))] [(.int z29)])) := by
                            intro z29 hz29
                            subst hx10 hx14 hx18 hz19 hz20 hz21 hx22 hz26 hz27 hz28 hz29
                            clear A6
                            exact G.ireturnN P (t := .boolean) rfl (by simp) rfl at_239 (by decide) (by decide) ⟨congrArg (fun z => some (Value.int z)) (by revert hr5 c193 c212; rcases hb1 with rfl | rfl <;> rcases hb2 with rfl | rfl <;> rcases hb3 with rfl | rfl <;> decide), trivial⟩
                          refine G.icmp_ne P at_231 (by decide) (pcY := 238) (by decide) (pcN := 234) rfl (fun c231 => ?_) (fun c231 => ?_)
                          · refine G.iconst P at_238 (v := (0 : Int32)) rfl (pc' := 239) rfl ?_
                            exact J239_231 _ (by simp only [if_neg c231])
                          · refine G.iconst P at_234 (v := (1 : Int32)) rfl (pc' := 235) rfl ?_
                            refine G.goto P at_235 (by decide) (pc' := 239) (by decide) ?_
                            exact J239_231 _ (by simp only [if_pos c231])
                        refine G.icmp_ge P at_223 (by decide) (pcY := 230) (by decide) (pcN := 226) rfl (fun c223 => ?_) (fun c223 => ?_)
                        · refine G.iconst P at_230 (v := (0 : Int32)) rfl (pc' := 231) rfl ?_
                          exact J231_223 _ (by simp only [if_neg c223])
                        · refine G.iconst P at_226 (v := (1 : Int32)) rfl (pc' := 227) rfl ?_
                          refine G.goto P at_227 (by decide) (pc' := 231) (by decide) ?_
                          exact J231_223 _ (by simp only [if_pos c223])
                    refine G.icmp_ge P at_204 (by decide) (pcY := 211) (by decide) (pcN := 207) rfl (fun c204 => ?_) (fun c204 => ?_)
                    · refine G.iconst P at_211 (v := (0 : Int32)) rfl (pc' := 212) rfl ?_
                      exact J212_204 _ (by simp only [if_neg c204])
                    · refine G.iconst P at_207 (v := (1 : Int32)) rfl (pc' := 208) rfl ?_
                      refine G.goto P at_208 (by decide) (pc' := 212) (by decide) ?_
                      exact J212_204 _ (by simp only [if_pos c204])
                refine G.icmp_ge P at_185 (by decide) (pcY := 192) (by decide) (pcN := 188) rfl (fun c185 => ?_) (fun c185 => ?_)
                · refine G.iconst P at_192 (v := (0 : Int32)) rfl (pc' := 193) rfl ?_
                  exact J193_185 _ (by simp only [if_neg c185])
                · refine G.iconst P at_188 (v := (1 : Int32)) rfl (pc' := 189) rfl ?_
                  refine G.goto P at_189 (by decide) (pc' := 193) (by decide) ?_
                  exact J193_185 _ (by simp only [if_pos c185])
              refine G.if_eq P at_107 (by decide) (pcY := 114) (by decide) (pcN := 110) rfl (fun c107 => ?_) (fun c107 => ?_)
              · refine G.iconst P at_114 (v := (0 : Int32)) rfl (pc' := 115) rfl ?_
                exact J115_107 _ (by simp only [if_pos c107])
              · refine G.iconst P at_110 (v := (1 : Int32)) rfl (pc' := 111) rfl ?_
                refine G.goto P at_111 (by decide) (pc' := 115) (by decide) ?_
                exact J115_107 _ (by simp only [if_neg c107])
            refine G.if_eq P at_97 (by decide) (pcY := 104) (by decide) (pcN := 100) rfl (fun c97 => ?_) (fun c97 => ?_)
            · refine G.iconst P at_104 (v := (0 : Int32)) rfl (pc' := 105) rfl ?_
              exact J105_97 _ (by simp only [if_pos c97])
            · refine G.iconst P at_100 (v := (1 : Int32)) rfl (pc' := 101) rfl ?_
              refine G.goto P at_101 (by decide) (pc' := 105) (by decide) ?_
              exact J105_97 _ (by simp only [if_neg c97])
          refine G.if_eq P at_88 (by decide) (pcY := 95) (by decide) (pcN := 91) rfl (fun c88 => ?_) (fun c88 => ?_)
          · refine G.iconst P at_95 (v := (0 : Int32)) rfl (pc' := 96) rfl ?_
            exact J96_88 _ (by simp only [if_pos c88])
          · refine G.iconst P at_91 (v := (1 : Int32)) rfl (pc' := 92) rfl ?_
            refine G.goto P at_92 (by decide) (pc' := 96) (by decide) ?_
            exact J96_88 _ (by simp only [if_neg c88])
        · subst q
          refine G.iload P at_44 rfl (pc' := 46) rfl ?_
          refine G.bipush P at_46 (v := (83 : Int32)) rfl (pc' := 48) rfl ?_
          refine G.icmp_eq P at_48 (by decide) (pcY := 67) (by decide) (pcN := 51) rfl (fun c => absurd c (by decide)) (fun _ => ?_)
          refine G.iload P at_51 rfl (pc' := 53) rfl ?_
          refine G.bipush P at_53 (v := (80 : Int32)) rfl (pc' := 55) rfl ?_
          refine G.icmp_eq P at_55 (by decide) (pcY := 67) (by decide) (pcN := 58) rfl (fun _ => ?_) (fun c => absurd c (by decide))
          refine G.iconst P at_67 (v := (3 : Int32)) rfl (pc' := 68) rfl ?_
          refine G.newarray P (wd hw (i := 4) rfl) rfl (N := 3) (by decide) (cap := 3) (Nat.le_refl _) (by decide) at_68 (cells' := 1) rfl (slots' := 3) rfl (by decide) (by decide) (pc' := 70) rfl ?_
          intro T h30 b30 hb30 g_b30 P E30 A30
          replace A30 : Ints Z h30 b30 .boolean 3 (fun _ => 0) := A30
          replace A30 := Ints.congr (g := (lst [(0 : Int32), (0 : Int32), (0 : Int32)])) A30 (fun i hi => by match i, hi with | 0, _ => rfl | 1, _ => rfl | 2, _ => rfl | k + 3, h => exact absurd h (by omega))
          refine G.astore P at_70 rfl (L' := #[.val (.int p0), .val (.int z2), .val (.int z3), .val (.int z4), .val (.int (80 : Int32)), .val (.ref b30), .unset, .unset, .unset, .unset]) rfl (pc' := 72) rfl ?_
          refine G.aload P at_72 rfl rfl (pc' := 74) rfl ?_
          refine G.iconst P at_74 (v := (0 : Int32)) rfl (pc' := 75) rfl ?_
          refine G.iloadN P at_75 rfl (pc' := 76) rfl ?_
          refine G.zastore P A30 (i := 0) (by decide) (by decide) g_b30 at_76 (pc' := 77) rfl ?_
          intro T h32 P W31
          replace A30 := A30.same W31
          obtain ⟨x34, hx34⟩ : ∃ z : Int32, (nar .boolean z2) = z := ⟨_, rfl⟩
          rw [hx34] at A30
          replace A30 := Ints.congr (g := (lst [x34, (0 : Int32), (0 : Int32)])) A30 (fun i hi => by match i, hi with | 0, _ => rfl | 1, _ => rfl | 2, _ => rfl | k + 3, h => exact absurd h (by omega))
          refine G.aload P at_77 rfl rfl (pc' := 79) rfl ?_
          refine G.iconst P at_79 (v := (1 : Int32)) rfl (pc' := 80) rfl ?_
          refine G.iloadN P at_80 rfl (pc' := 81) rfl ?_
          refine G.zastore P A30 (i := 1) (by decide) (by decide) g_b30 at_81 (pc' := 82) rfl ?_
          intro T h36 P W35
          replace A30 := A30.same W35
          obtain ⟨x38, hx38⟩ : ∃ z : Int32, (nar .boolean z3) = z := ⟨_, rfl⟩
          rw [hx38] at A30
          replace A30 := Ints.congr (g := (lst [x34, x38, (0 : Int32)])) A30 (fun i hi => by match i, hi with | 0, _ => rfl | 1, _ => rfl | 2, _ => rfl | k + 3, h => exact absurd h (by omega))
          refine G.aload P at_82 rfl rfl (pc' := 84) rfl ?_
          refine G.iconst P at_84 (v := (2 : Int32)) rfl (pc' := 85) rfl ?_
          refine G.iloadN P at_85 rfl (pc' := 86) rfl ?_
          refine G.zastore P A30 (i := 2) (by decide) (by decide) g_b30 at_86 (pc' := 87) rfl ?_
          intro T h40 P W39
          replace A30 := A30.same W39
          obtain ⟨x42, hx42⟩ : ∃ z : Int32, (nar .boolean z4) = z := ⟨_, rfl⟩
          rw [hx42] at A30
          replace A30 := Ints.congr (g := (lst [x34, x38, x42])) A30 (fun i hi => by match i, hi with | 0, _ => rfl | 1, _ => rfl | 2, _ => rfl | k + 3, h => exact absurd h (by omega))
          refine G.iloadN P at_87 rfl (pc' := 88) rfl ?_
          have J96_88 : ∀ (z43 : Int32), z43 = (if z2 = 0 then (0 : Int32) else (1 : Int32)) → Goes p e below s n0 room_1.cells room_1.slots (Q0 Z p0 h0) (T.setTop (mkF m 96 #[.val (.int p0), .val (.int z2), .val (.int z3), .val (.int z4), .val (.int (80 : Int32)), .val (.ref b30), .unset, .unset, .unset, .unset] [(.int z43)])) := by
            intro z43 hz43
            refine G.iloadN P at_96 rfl (pc' := 97) rfl ?_
            have J105_97 : ∀ (z44 : Int32), z44 = (if z3 = 0 then (0 : Int32) else (1 : Int32)) → Goes p e below s n0 room_1.cells room_1.slots (Q0 Z p0 h0) (T.setTop (mkF m 105 #[.val (.int p0), .val (.int z2), .val (.int z3), .val (.int z4), .val (.int (80 : Int32)), .val (.ref b30), .unset, .unset, .unset, .unset] [(.int z44), (.int z43)])) := by
              intro z44 hz44
              refine G.iadd P at_105 (pc' := 106) rfl ?_
              refine G.iloadN P at_106 rfl (pc' := 107) rfl ?_
              have J115_107 : ∀ (z45 : Int32), z45 = (if z4 = 0 then (0 : Int32) else (1 : Int32)) → Goes p e below s n0 room_1.cells room_1.slots (Q0 Z p0 h0) (T.setTop (mkF m 115 #[.val (.int p0), .val (.int z2), .val (.int z3), .val (.int z4), .val (.int (80 : Int32)), .val (.ref b30), .unset, .unset, .unset, .unset] [(.int z45), (.int (z43 + z44))])) := by
                intro z45 hz45
                refine G.iadd P at_115 (pc' := 116) rfl ?_
                obtain ⟨x46, hx46⟩ : ∃ z : Int32, ((z43 + z44) + z45) = z := ⟨_, rfl⟩
                refine G.istore P at_116 hx46 (L' := #[.val (.int p0), .val (.int z2), .val (.int z3), .val (.int z4), .val (.int (80 : Int32)), .val (.ref b30), .val (.int x46), .unset, .unset, .unset]) rfl (pc' := 118) rfl ?_
                refine G.iload P at_118 rfl (pc' := 120) rfl ?_
                refine G.iconst P at_120 (v := (0 : Int32)) rfl (pc' := 121) rfl ?_
                refine G.callS P (wd hw (i := 5) rfl) (wd hw (i := 6) rfl) (wd hw (i := 2) rfl) (wd hw (i := 7) rfl) (by decide) (argsL := [(.int (80 : Int32)), (.int (0 : Int32))]) (rm2 hw (80 : Int32) (0 : Int32) h40 (by decide) P.sz) (by decide) (by decide) (cells' := 1) rfl (slots' := 3) rfl (by decide) (by decide) (lenOf pd_2 rfl) rfl (rest := []) rfl (W := 0) (Nat.le_of_eq rfl) at_121 (pc' := 124) rfl ?_
                rintro T _ _ P ⟨rfl, rfl⟩
                show Goes p e below s n0 room_1.cells room_1.slots (Q0 Z p0 h0) (T.setTop (mkF m 124 #[.val (.int p0), .val (.int z2), .val (.int z3), .val (.int z4), .val (.int (80 : Int32)), .val (.ref b30), .val (.int x46), .unset, .unset, .unset] [(.int (f2 (80 : Int32) (0 : Int32)))]))
                generalize hr47 : (f2 (80 : Int32) (0 : Int32)) = r47
                obtain rfl : (1 : Int32) = r47 := by rw [← hr47]; decide
                refine G.istore P at_124 rfl (L' := #[.val (.int p0), .val (.int z2), .val (.int z3), .val (.int z4), .val (.int (80 : Int32)), .val (.ref b30), .val (.int x46), .val (.int (1 : Int32)), .unset, .unset]) rfl (pc' := 126) rfl ?_
                refine G.iload P at_126 rfl (pc' := 128) rfl ?_
                refine G.iconst P at_128 (v := (1 : Int32)) rfl (pc' := 129) rfl ?_
                refine G.callS P (wd hw (i := 5) rfl) (wd hw (i := 6) rfl) (wd hw (i := 2) rfl) (wd hw (i := 7) rfl) (by decide) (argsL := [(.int (80 : Int32)), (.int (1 : Int32))]) (rm2 hw (80 : Int32) (1 : Int32) h40 (by decide) P.sz) (by decide) (by decide) (cells' := 1) rfl (slots' := 3) rfl (by decide) (by decide) (lenOf pd_2 rfl) rfl (rest := []) rfl (W := 0) (Nat.le_of_eq rfl) at_129 (pc' := 132) rfl ?_
                rintro T _ _ P ⟨rfl, rfl⟩
                show Goes p e below s n0 room_1.cells room_1.slots (Q0 Z p0 h0) (T.setTop (mkF m 132 #[.val (.int p0), .val (.int z2), .val (.int z3), .val (.int z4), .val (.int (80 : Int32)), .val (.ref b30), .val (.int x46), .val (.int (1 : Int32)), .unset, .unset] [(.int (f2 (80 : Int32) (1 : Int32)))]))
                generalize hr48 : (f2 (80 : Int32) (1 : Int32)) = r48
                obtain rfl : (2 : Int32) = r48 := by rw [← hr48]; decide
                refine G.istore P at_132 rfl (L' := #[.val (.int p0), .val (.int z2), .val (.int z3), .val (.int z4), .val (.int (80 : Int32)), .val (.ref b30), .val (.int x46), .val (.int (1 : Int32)), .val (.int (2 : Int32)), .unset]) rfl (pc' := 134) rfl ?_
                refine G.iload P at_134 rfl (pc' := 136) rfl ?_
                refine G.iconst P at_136 (v := (2 : Int32)) rfl (pc' := 137) rfl ?_
                refine G.callS P (wd hw (i := 5) rfl) (wd hw (i := 6) rfl) (wd hw (i := 2) rfl) (wd hw (i := 7) rfl) (by decide) (argsL := [(.int (80 : Int32)), (.int (2 : Int32))]) (rm2 hw (80 : Int32) (2 : Int32) h40 (by decide) P.sz) (by decide) (by decide) (cells' := 1) rfl (slots' := 3) rfl (by decide) (by decide) (lenOf pd_2 rfl) rfl (rest := []) rfl (W := 0) (Nat.le_of_eq rfl) at_137 (pc' := 140) rfl ?_
                rintro T _ _ P ⟨rfl, rfl⟩
                show Goes p e below s n0 room_1.cells room_1.slots (Q0 Z p0 h0) (T.setTop (mkF m 140 #[.val (.int p0), .val (.int z2), .val (.int z3), .val (.int z4), .val (.int (80 : Int32)), .val (.ref b30), .val (.int x46), .val (.int (1 : Int32)), .val (.int (2 : Int32)), .unset] [(.int (f2 (80 : Int32) (2 : Int32)))]))
                generalize hr49 : (f2 (80 : Int32) (2 : Int32)) = r49
                obtain rfl : (0 : Int32) = r49 := by rw [← hr49]; decide
                refine G.istore P at_140 rfl (L' := #[.val (.int p0), .val (.int z2), .val (.int z3), .val (.int z4), .val (.int (80 : Int32)), .val (.ref b30), .val (.int x46), .val (.int (1 : Int32)), .val (.int (2 : Int32)), .val (.int (0 : Int32))]) rfl (pc' := 142) rfl ?_
                refine G.iload P at_142 rfl (pc' := 144) rfl ?_
                refine G.if_lt P at_144 (by decide) (pcY := 175) (by decide) (pcN := 147) rfl (fun c => absurd c (by decide)) (fun _ => ?_)
                refine G.iload P at_147 rfl (pc' := 149) rfl ?_
                refine G.iconst P at_149 (v := (2 : Int32)) rfl (pc' := 150) rfl ?_
                refine G.icmp_gt P at_150 (by decide) (pcY := 175) (by decide) (pcN := 153) rfl (fun c => absurd c (by decide)) (fun _ => ?_)
                refine G.iload P at_153 rfl (pc' := 155) rfl ?_
                refine G.if_lt P at_155 (by decide) (pcY := 175) (by decide) (pcN := 158) rfl (fun c => absurd c (by decide)) (fun _ => ?_)
                refine G.iload P at_158 rfl (pc' := 160) rfl ?_
                refine G.iconst P at_160 (v := (2 : Int32)) rfl (pc' := 161) rfl ?_
                refine G.icmp_gt P at_161 (by decide) (pcY := 175) (by decide) (pcN := 164) rfl (fun c => absurd c (by decide)) (fun _ => ?_)
                refine G.iload P at_164 rfl (pc' := 166) rfl ?_
                refine G.if_lt P at_166 (by decide) (pcY := 175) (by decide) (pcN := 169) rfl (fun c => absurd c (by decide)) (fun _ => ?_)
                refine G.iload P at_169 rfl (pc' := 171) rfl ?_
                refine G.iconst P at_171 (v := (2 : Int32)) rfl (pc' := 172) rfl ?_
                refine G.icmp_le P at_172 (by decide) (pcY := 177) (by decide) (pcN := 175) rfl (fun _ => ?_) (fun c => absurd c (by decide))
                refine G.aload P at_177 rfl rfl (pc' := 179) rfl ?_
                refine G.iload P at_179 rfl (pc' := 181) rfl ?_
                refine G.zaload P A30 (i := 1) (by decide) (by decide) at_181 (pc' := 182) rfl ?_
                show Goes p e below s n0 room_1.cells room_1.slots (Q0 Z p0 h0) (T.setTop (mkF m 182 #[.val (.int p0), .val (.int z2), .val (.int z3), .val (.int z4), .val (.int (80 : Int32)), .val (.ref b30), .val (.int x46), .val (.int (1 : Int32)), .val (.int (2 : Int32)), .val (.int (0 : Int32))] [(.int x38)]))
                refine G.iconst P at_182 (v := (0 : Int32)) rfl (pc' := 183) rfl ?_
                refine G.iload P at_183 rfl (pc' := 185) rfl ?_
                have J193_185 : ∀ (z50 : Int32), z50 = (if (0 : Int32) < x46 then (1 : Int32) else (0 : Int32)) → Goes p e below s n0 room_1.cells room_1.slots (Q0 Z p0 h0) (T.setTop (mkF m 193 #[.val (.int p0), .val (.int z2), .val (.int z3), .val (.int z4), .val (.int (80 : Int32)), .val (.ref b30), .val (.int x46), .val (.int (1 : Int32)), .val (.int (2 : Int32)), .val (.int (0 : Int32))] [(.int z50), (.int x38)])) := by
                  intro z50 hz50
                  refine G.icmp_ne P at_193 (by decide) (pcY := 238) (by decide) (pcN := 196) rfl (fun c193 => ?_) (fun c193 => ?_)
                  · refine G.iconst P at_238 (v := (0 : Int32)) rfl (pc' := 239) rfl ?_
                    subst hx34 hx38 hx42 hz43 hz44 hz45 hx46 hz50
                    clear A30
                    exact G.ireturnN P (t := .boolean) rfl (by simp) rfl at_239 (by decide) (by decide) ⟨congrArg (fun z => some (Value.int z)) (by revert hr5 c193; rcases hb1 with rfl | rfl <;> rcases hb2 with rfl | rfl <;> rcases hb3 with rfl | rfl <;> decide), trivial⟩
                  · refine G.aload P at_196 rfl rfl (pc' := 198) rfl ?_
                    refine G.iload P at_198 rfl (pc' := 200) rfl ?_
                    refine G.zaload P A30 (i := 2) (by decide) (by decide) at_200 (pc' := 201) rfl ?_
                    show Goes p e below s n0 room_1.cells room_1.slots (Q0 Z p0 h0) (T.setTop (mkF m 201 #[.val (.int p0), .val (.int z2), .val (.int z3), .val (.int z4), .val (.int (80 : Int32)), .val (.ref b30), .val (.int x46), .val (.int (1 : Int32)), .val (.int (2 : Int32)), .val (.int (0 : Int32))] [(.int x42)]))
                    refine G.iconst P at_201 (v := (1 : Int32)) rfl (pc' := 202) rfl ?_
                    refine G.iload P at_202 rfl (pc' := 204) rfl ?_
                    have J212_204 : ∀ (z51 : Int32), z51 = (if (1 : Int32) < x46 then (1 : Int32) else (0 : Int32)) → Goes p e below s n0 room_1.cells room_1.slots (Q0 Z p0 h0) (T.setTop (mkF m 212 #[.val (.int p0), .val (.int z2), .val (.int z3), .val (.int z4), .val (.int (80 : Int32)), .val (.ref b30), .val (.int x46), .val (.int (1 : Int32)), .val (.int (2 : Int32)), .val (.int (0 : Int32))] [(.int z51), (.int x42)])) := by
                      intro z51 hz51
                      refine G.icmp_ne P at_212 (by decide) (pcY := 238) (by decide) (pcN := 215) rfl (fun c212 => ?_) (fun c212 => ?_)
                      · refine G.iconst P at_238 (v := (0 : Int32)) rfl (pc' := 239) rfl ?_
                        subst hx34 hx38 hx42 hz43 hz44 hz45 hx46 hz50 hz51
                        clear A30
                        exact G.ireturnN P (t := .boolean) rfl (by simp) rfl at_239 (by decide) (by decide) ⟨congrArg (fun z => some (Value.int z)) (by revert hr5 c193 c212; rcases hb1 with rfl | rfl <;> rcases hb2 with rfl | rfl <;> rcases hb3 with rfl | rfl <;> decide), trivial⟩
                      · refine G.aload P at_215 rfl rfl (pc' := 217) rfl ?_
                        refine G.iload P at_217 rfl (pc' := 219) rfl ?_
                        refine G.zaload P A30 (i := 0) (by decide) (by decide) at_219 (pc' := 220) rfl ?_
                        show Goes p e below s n0 room_1.cells room_1.slots (Q0 Z p0 h0) (T.setTop (mkF m 220 #[.val (.int p0), .val (.int z2), .val (.int z3), .val (.int z4), .val (.int (80 : Int32)), .val (.ref b30), .val (.int x46), .val (.int (1 : Int32)), .val (.int (2 : Int32)), .val (.int (0 : Int32))] [(.int x34)]))
                        refine G.iconst P at_220 (v := (2 : Int32)) rfl (pc' := 221) rfl ?_
                        refine G.iload P at_221 rfl (pc' := 223) rfl ?_
                        have J231_223 : ∀ (z52 : Int32), z52 = (if (2 : Int32) < x46 then (1 : Int32) else (0 : Int32)) → Goes p e below s n0 room_1.cells room_1.slots (Q0 Z p0 h0) (T.setTop (mkF m 231 #[.val (.int p0), .val (.int z2), .val (.int z3), .val (.int z4), .val (.int (80 : Int32)), .val (.ref b30), .val (.int x46), .val (.int (1 : Int32)), .val (.int (2 : Int32)), .val (.int (0 : Int32))] [(.int z52), (.int x34)])) := by
                          intro z52 hz52
                          have J239_231 : ∀ (z53 : Int32), z53 = (if x34 = z52 then (1 : Int32) else (0 : Int32)) → Goes p e below s n0 room_1.cells room_1.slots (Q0 Z p0 h0) (T.setTop (mkF m 239 #[.val (.int p0), .val (.int z2), .val (.int z3), .val (.int z4), .val (.int (80 : Int32)), .val (.ref b30), .val (.int x46), .val (.int (1 : Int32)), .val (.int (2 : Int32)), .val (.int (0 : Int32))] [(.int z53)])) := by
                            intro z53 hz53
                            subst hx34 hx38 hx42 hz43 hz44 hz45 hx46 hz50 hz51 hz52 hz53
                            clear A30
                            exact G.ireturnN P (t := .boolean) rfl (by simp) rfl at_239 (by decide) (by decide) ⟨congrArg (fun z => some (Value.int z)) (by revert hr5 c193 c212; rcases hb1 with rfl | rfl <;> rcases hb2 with rfl | rfl <;> rcases hb3 with rfl | rfl <;> decide), trivial⟩
                          refine G.icmp_ne P at_231 (by decide) (pcY := 238) (by decide) (pcN := 234) rfl (fun c231 => ?_) (fun c231 => ?_)
                          · refine G.iconst P at_238 (v := (0 : Int32)) rfl (pc' := 239) rfl ?_
                            exact J239_231 _ (by simp only [if_neg c231])
                          · refine G.iconst P at_234 (v := (1 : Int32)) rfl (pc' := 235) rfl ?_
                            refine G.goto P at_235 (by decide) (pc' := 239) (by decide) ?_
                            exact J239_231 _ (by simp only [if_pos c231])
                        refine G.icmp_ge P at_223 (by decide) (pcY := 230) (by decide) (pcN := 226) rfl (fun c223 => ?_) (fun c223 => ?_)
                        · refine G.iconst P at_230 (v := (0 : Int32)) rfl (pc' := 231) rfl ?_
                          exact J231_223 _ (by simp only [if_neg c223])
                        · refine G.iconst P at_226 (v := (1 : Int32)) rfl (pc' := 227) rfl ?_
                          refine G.goto P at_227 (by decide) (pc' := 231) (by decide) ?_
                          exact J231_223 _ (by simp only [if_pos c223])
                    refine G.icmp_ge P at_204 (by decide) (pcY := 211) (by decide) (pcN := 207) rfl (fun c204 => ?_) (fun c204 => ?_)
                    · refine G.iconst P at_211 (v := (0 : Int32)) rfl (pc' := 212) rfl ?_
                      exact J212_204 _ (by simp only [if_neg c204])
                    · refine G.iconst P at_207 (v := (1 : Int32)) rfl (pc' := 208) rfl ?_
                      refine G.goto P at_208 (by decide) (pc' := 212) (by decide) ?_
                      exact J212_204 _ (by simp only [if_pos c204])
                refine G.icmp_ge P at_185 (by decide) (pcY := 192) (by decide) (pcN := 188) rfl (fun c185 => ?_) (fun c185 => ?_)
                · refine G.iconst P at_192 (v := (0 : Int32)) rfl (pc' := 193) rfl ?_
                  exact J193_185 _ (by simp only [if_neg c185])
                · refine G.iconst P at_188 (v := (1 : Int32)) rfl (pc' := 189) rfl ?_
                  refine G.goto P at_189 (by decide) (pc' := 193) (by decide) ?_
                  exact J193_185 _ (by simp only [if_pos c185])
              refine G.if_eq P at_107 (by decide) (pcY := 114) (by decide) (pcN := 110) rfl (fun c107 => ?_) (fun c107 => ?_)
              · refine G.iconst P at_114 (v := (0 : Int32)) rfl (pc' := 115) rfl ?_
                exact J115_107 _ (by simp only [if_pos c107])
              · refine G.iconst P at_110 (v := (1 : Int32)) rfl (pc' := 111) rfl ?_
                refine G.goto P at_111 (by decide) (pc' := 115) (by decide) ?_
                exact J115_107 _ (by simp only [if_neg c107])
            refine G.if_eq P at_97 (by decide) (pcY := 104) (by decide) (pcN := 100) rfl (fun c97 => ?_) (fun c97 => ?_)
            · refine G.iconst P at_104 (v := (0 : Int32)) rfl (pc' := 105) rfl ?_
              exact J105_97 _ (by simp only [if_pos c97])
            · refine G.iconst P at_100 (v := (1 : Int32)) rfl (pc' := 101) rfl ?_
              refine G.goto P at_101 (by decide) (pc' := 105) (by decide) ?_
              exact J105_97 _ (by simp only [if_neg c97])
          refine G.if_eq P at_88 (by decide) (pcY := 95) (by decide) (pcN := 91) rfl (fun c88 => ?_) (fun c88 => ?_)
          · refine G.iconst P at_95 (v := (0 : Int32)) rfl (pc' := 96) rfl ?_
            exact J96_88 _ (by simp only [if_pos c88])
          · refine G.iconst P at_91 (v := (1 : Int32)) rfl (pc' := 92) rfl ?_
            refine G.goto P at_92 (by decide) (pc' := 96) (by decide) ?_
            exact J96_88 _ (by simp only [if_neg c88])
        · subst q
          refine G.iload P at_44 rfl (pc' := 46) rfl ?_
          refine G.bipush P at_46 (v := (83 : Int32)) rfl (pc' := 48) rfl ?_
          refine G.icmp_eq P at_48 (by decide) (pcY := 67) (by decide) (pcN := 51) rfl (fun c => absurd c (by decide)) (fun _ => ?_)
          refine G.iload P at_51 rfl (pc' := 53) rfl ?_
          refine G.bipush P at_53 (v := (80 : Int32)) rfl (pc' := 55) rfl ?_
          refine G.icmp_eq P at_55 (by decide) (pcY := 67) (by decide) (pcN := 58) rfl (fun c => absurd c (by decide)) (fun _ => ?_)
          refine G.iload P at_58 rfl (pc' := 60) rfl ?_
          refine G.bipush P at_60 (v := (79 : Int32)) rfl (pc' := 62) rfl ?_
          refine G.icmp_eq P at_62 (by decide) (pcY := 67) (by decide) (pcN := 65) rfl (fun _ => ?_) (fun c => absurd c (by decide))
          refine G.iconst P at_67 (v := (3 : Int32)) rfl (pc' := 68) rfl ?_
          refine G.newarray P (wd hw (i := 4) rfl) rfl (N := 3) (by decide) (cap := 3) (Nat.le_refl _) (by decide) at_68 (cells' := 1) rfl (slots' := 3) rfl (by decide) (by decide) (pc' := 70) rfl ?_
          intro T h54 b54 hb54 g_b54 P E54 A54
          replace A54 : Ints Z h54 b54 .boolean 3 (fun _ => 0) := A54
          replace A54 := Ints.congr (g := (lst [(0 : Int32), (0 : Int32), (0 : Int32)])) A54 (fun i hi => by match i, hi with | 0, _ => rfl | 1, _ => rfl | 2, _ => rfl | k + 3, h => exact absurd h (by omega))
          refine G.astore P at_70 rfl (L' := #[.val (.int p0), .val (.int z2), .val (.int z3), .val (.int z4), .val (.int (79 : Int32)), .val (.ref b54), .unset, .unset, .unset, .unset]) rfl (pc' := 72) rfl ?_
          refine G.aload P at_72 rfl rfl (pc' := 74) rfl ?_
          refine G.iconst P at_74 (v := (0 : Int32)) rfl (pc' := 75) rfl ?_
          refine G.iloadN P at_75 rfl (pc' := 76) rfl ?_
          refine G.zastore P A54 (i := 0) (by decide) (by decide) g_b54 at_76 (pc' := 77) rfl ?_
          intro T h56 P W55
          replace A54 := A54.same W55
          obtain ⟨x58, hx58⟩ : ∃ z : Int32, (nar .boolean z2) = z := ⟨_, rfl⟩
          rw [hx58] at A54
          replace A54 := Ints.congr (g := (lst [x58, (0 : Int32), (0 : Int32)])) A54 (fun i hi => by match i, hi with | 0, _ => rfl | 1, _ => rfl | 2, _ => rfl | k + 3, h => exact absurd h (by omega))
          refine G.aload P at_77 rfl rfl (pc' := 79) rfl ?_
          refine G.iconst P at_79 (v := (1 : Int32)) rfl (pc' := 80) rfl ?_
          refine G.iloadN P at_80 rfl (pc' := 81) rfl ?_
          refine G.zastore P A54 (i := 1) (by decide) (by decide) g_b54 at_81 (pc' := 82) rfl ?_
          intro T h60 P W59
          replace A54 := A54.same W59
          obtain ⟨x62, hx62⟩ : ∃ z : Int32, (nar .boolean z3) = z := ⟨_, rfl⟩
          rw [hx62] at A54
          replace A54 := Ints.congr (g := (lst [x58, x62, (0 : Int32)])) A54 (fun i hi => by match i, hi with | 0, _ => rfl | 1, _ => rfl | 2, _ => rfl | k + 3, h => exact absurd h (by omega))
          refine G.aload P at_82 rfl rfl (pc' := 84) rfl ?_
          refine G.iconst P at_84 (v := (2 : Int32)) rfl (pc' := 85) rfl ?_
          refine G.iloadN P at_85 rfl (pc' := 86) rfl ?_
          refine G.zastore P A54 (i := 2) (by decide) (by decide) g_b54 at_86 (pc' := 87) rfl ?_
          intro T h64 P W63
          replace A54 := A54.same W63
          obtain ⟨x66, hx66⟩ : ∃ z : Int32, (nar .boolean z4) = z := ⟨_, rfl⟩
          rw [hx66] at A54
          replace A54 := Ints.congr (g := (lst [x58, x62, x66])) A54 (fun i hi => by match i, hi with | 0, _ => rfl | 1, _ => rfl | 2, _ => rfl | k + 3, h => exact absurd h (by omega))
          refine G.iloadN P at_87 rfl (pc' := 88) rfl ?_
          have J96_88 : ∀ (z67 : Int32), z67 = (if z2 = 0 then (0 : Int32) else (1 : Int32)) → Goes p e below s n0 room_1.cells room_1.slots (Q0 Z p0 h0) (T.setTop (mkF m 96 #[.val (.int p0), .val (.int z2), .val (.int z3), .val (.int z4), .val (.int (79 : Int32)), .val (.ref b54), .unset, .unset, .unset, .unset] [(.int z67)])) := by
            intro z67 hz67
            refine G.iloadN P at_96 rfl (pc' := 97) rfl ?_
            have J105_97 : ∀ (z68 : Int32), z68 = (if z3 = 0 then (0 : Int32) else (1 : Int32)) → Goes p e below s n0 room_1.cells room_1.slots (Q0 Z p0 h0) (T.setTop (mkF m 105 #[.val (.int p0), .val (.int z2), .val (.int z3), .val (.int z4), .val (.int (79 : Int32)), .val (.ref b54), .unset, .unset, .unset, .unset] [(.int z68), (.int z67)])) := by
              intro z68 hz68
              refine G.iadd P at_105 (pc' := 106) rfl ?_
              refine G.iloadN P at_106 rfl (pc' := 107) rfl ?_
              have J115_107 : ∀ (z69 : Int32), z69 = (if z4 = 0 then (0 : Int32) else (1 : Int32)) → Goes p e below s n0 room_1.cells room_1.slots (Q0 Z p0 h0) (T.setTop (mkF m 115 #[.val (.int p0), .val (.int z2), .val (.int z3), .val (.int z4), .val (.int (79 : Int32)), .val (.ref b54), .unset, .unset, .unset, .unset] [(.int z69), (.int (z67 + z68))])) := by
                intro z69 hz69
                refine G.iadd P at_115 (pc' := 116) rfl ?_
                obtain ⟨x70, hx70⟩ : ∃ z : Int32, ((z67 + z68) + z69) = z := ⟨_, rfl⟩
                refine G.istore P at_116 hx70 (L' := #[.val (.int p0), .val (.int z2), .val (.int z3), .val (.int z4), .val (.int (79 : Int32)), .val (.ref b54), .val (.int x70), .unset, .unset, .unset]) rfl (pc' := 118) rfl ?_
                refine G.iload P at_118 rfl (pc' := 120) rfl ?_
                refine G.iconst P at_120 (v := (0 : Int32)) rfl (pc' := 121) rfl ?_
                refine G.callS P (wd hw (i := 5) rfl) (wd hw (i := 6) rfl) (wd hw (i := 2) rfl) (wd hw (i := 7) rfl) (by decide) (argsL := [(.int (79 : Int32)), (.int (0 : Int32))]) (rm2 hw (79 : Int32) (0 : Int32) h64 (by decide) P.sz) (by decide) (by decide) (cells' := 1) rfl (slots' := 3) rfl (by decide) (by decide) (lenOf pd_2 rfl) rfl (rest := []) rfl (W := 0) (Nat.le_of_eq rfl) at_121 (pc' := 124) rfl ?_
                rintro T _ _ P ⟨rfl, rfl⟩
                show Goes p e below s n0 room_1.cells room_1.slots (Q0 Z p0 h0) (T.setTop (mkF m 124 #[.val (.int p0), .val (.int z2), .val (.int z3), .val (.int z4), .val (.int (79 : Int32)), .val (.ref b54), .val (.int x70), .unset, .unset, .unset] [(.int (f2 (79 : Int32) (0 : Int32)))]))
                generalize hr71 : (f2 (79 : Int32) (0 : Int32)) = r71
                obtain rfl : (2 : Int32) = r71 := by rw [← hr71]; decide
                refine G.istore P at_124 rfl (L' := #[.val (.int p0), .val (.int z2), .val (.int z3), .val (.int z4), .val (.int (79 : Int32)), .val (.ref b54), .val (.int x70), .val (.int (2 : Int32)), .unset, .unset]) rfl (pc' := 126) rfl ?_
                refine G.iload P at_126 rfl (pc' := 128) rfl ?_
                refine G.iconst P at_128 (v := (1 : Int32)) rfl (pc' := 129) rfl ?_
                refine G.callS P (wd hw (i := 5) rfl) (wd hw (i := 6) rfl) (wd hw (i := 2) rfl) (wd hw (i := 7) rfl) (by decide) (argsL := [(.int (79 : Int32)), (.int (1 : Int32))]) (rm2 hw (79 : Int32) (1 : Int32) h64 (by decide) P.sz) (by decide) (by decide) (cells' := 1) rfl (slots' := 3) rfl (by decide) (by decide) (lenOf pd_2 rfl) rfl (rest := []) rfl (W := 0) (Nat.le_of_eq rfl) at_129 (pc' := 132) rfl ?_
                rintro T _ _ P ⟨rfl, rfl⟩
                show Goes p e below s n0 room_1.cells room_1.slots (Q0 Z p0 h0) (T.setTop (mkF m 132 #[.val (.int p0), .val (.int z2), .val (.int z3), .val (.int z4), .val (.int (79 : Int32)), .val (.ref b54), .val (.int x70), .val (.int (2 : Int32)), .unset, .unset] [(.int (f2 (79 : Int32) (1 : Int32)))]))
                generalize hr72 : (f2 (79 : Int32) (1 : Int32)) = r72
                obtain rfl : (0 : Int32) = r72 := by rw [← hr72]; decide
                refine G.istore P at_132 rfl (L' := #[.val (.int p0), .val (.int z2), .val (.int z3), .val (.int z4), .val (.int (79 : Int32)), .val (.ref b54), .val (.int x70), .val (.int (2 : Int32)), .val (.int (0 : Int32)), .unset]) rfl (pc' := 134) rfl ?_
                refine G.iload P at_134 rfl (pc' := 136) rfl ?_
                refine G.iconst P at_136 (v := (2 : Int32)) rfl (pc' := 137) rfl ?_
                refine G.callS P (wd hw (i := 5) rfl) (wd hw (i := 6) rfl) (wd hw (i := 2) rfl) (wd hw (i := 7) rfl) (by decide) (argsL := [(.int (79 : Int32)), (.int (2 : Int32))]) (rm2 hw (79 : Int32) (2 : Int32) h64 (by decide) P.sz) (by decide) (by decide) (cells' := 1) rfl (slots' := 3) rfl (by decide) (by decide) (lenOf pd_2 rfl) rfl (rest := []) rfl (W := 0) (Nat.le_of_eq rfl) at_137 (pc' := 140) rfl ?_
                rintro T _ _ P ⟨rfl, rfl⟩
                show Goes p e below s n0 room_1.cells room_1.slots (Q0 Z p0 h0) (T.setTop (mkF m 140 #[.val (.int p0), .val (.int z2), .val (.int z3), .val (.int z4), .val (.int (79 : Int32)), .val (.ref b54), .val (.int x70), .val (.int (2 : Int32)), .val (.int (0 : Int32)), .unset] [(.int (f2 (79 : Int32) (2 : Int32)))]))
                generalize hr73 : (f2 (79 : Int32) (2 : Int32)) = r73
                obtain rfl : (1 : Int32) = r73 := by rw [← hr73]; decide
                refine G.istore P at_140 rfl (L' := #[.val (.int p0), .val (.int z2), .val (.int z3), .val (.int z4), .val (.int (79 : Int32)), .val (.ref b54), .val (.int x70), .val (.int (2 : Int32)), .val (.int (0 : Int32)), .val (.int (1 : Int32))]) rfl (pc' := 142) rfl ?_
                refine G.iload P at_142 rfl (pc' := 144) rfl ?_
                refine G.if_lt P at_144 (by decide) (pcY := 175) (by decide) (pcN := 147) rfl (fun c => absurd c (by decide)) (fun _ => ?_)
                refine G.iload P at_147 rfl (pc' := 149) rfl ?_
                refine G.iconst P at_149 (v := (2 : Int32)) rfl (pc' := 150) rfl ?_
                refine G.icmp_gt P at_150 (by decide) (pcY := 175) (by decide) (pcN := 153) rfl (fun c => absurd c (by decide)) (fun _ => ?_)
                refine G.iload P at_153 rfl (pc' := 155) rfl ?_
                refine G.if_lt P at_155 (by decide) (pcY := 175) (by decide) (pcN := 158) rfl (fun c => absurd c (by decide)) (fun _ => ?_)
                refine G.iload P at_158 rfl (pc' := 160) rfl ?_
                refine G.iconst P at_160 (v := (2 : Int32)) rfl (pc' := 161) rfl ?_
                refine G.icmp_gt P at_161 (by decide) (pcY := 175) (by decide) (pcN := 164) rfl (fun c => absurd c (by decide)) (fun _ => ?_)
                refine G.iload P at_164 rfl (pc' := 166) rfl ?_
                refine G.if_lt P at_166 (by decide) (pcY := 175) (by decide) (pcN := 169) rfl (fun c => absurd c (by decide)) (fun _ => ?_)
                refine G.iload P at_169 rfl (pc' := 171) rfl ?_
                refine G.iconst P at_171 (v := (2 : Int32)) rfl (pc' := 172) rfl ?_
                refine G.icmp_le P at_172 (by decide) (pcY := 177) (by decide) (pcN := 175) rfl (fun _ => ?_) (fun c => absurd c (by decide))
                refine G.aload P at_177 rfl rfl (pc' := 179) rfl ?_
                refine G.iload P at_179 rfl (pc' := 181) rfl ?_
                refine G.zaload P A54 (i := 2) (by decide) (by decide) at_181 (pc' := 182) rfl ?_
                show Goes p e below s n0 room_1.cells room_1.slots (Q0 Z p0 h0) (T.setTop (mkF m 182 #[.val (.int p0), .val (.int z2), .val (.int z3), .val (.int z4), .val (.int (79 : Int32)), .val (.ref b54), .val (.int x70), .val (.int (2 : Int32)), .val (.int (0 : Int32)), .val (.int (1 : Int32))] [(.int x66)]))
                refine G.iconst P at_182 (v := (0 : Int32)) rfl (pc' := 183) rfl ?_
                refine G.iload P at_183 rfl (pc' := 185) rfl ?_
                have J193_185 : ∀ (z74 : Int32), z74 = (if (0 : Int32) < x70 then (1 : Int32) else (0 : Int32)) → Goes p e below s n0 room_1.cells room_1.slots (Q0 Z p0 h0) (T.setTop (mkF m 193 #[.val (.int p0), .val (.int z2), .val (.int z3), .val (.int z4), .val (.int (79 : Int32)), .val (.ref b54), .val (.int x70), .val (.int (2 : Int32)), .val (.int (0 : Int32)), .val (.int (1 : Int32))] [(.int z74), (.int x66)])) := by
                  intro z74 hz74
                  refine G.icmp_ne P at_193 (by decide) (pcY := 238) (by decide) (pcN := 196) rfl (fun c193 => ?_) (fun c193 => ?_)
                  · refine G.iconst P at_238 (v := (0 : Int32)) rfl (pc' := 239) rfl ?_
                    subst hx58 hx62 hx66 hz67 hz68 hz69 hx70 hz74
                    clear A54
                    exact G.ireturnN P (t := .boolean) rfl (by simp) rfl at_239 (by decide) (by decide) ⟨congrArg (fun z => some (Value.int z)) (by revert hr5 c193; rcases hb1 with rfl | rfl <;> rcases hb2 with rfl | rfl <;> rcases hb3 with rfl | rfl <;> decide), trivial⟩
                  · refine G.aload P at_196 rfl rfl (pc' := 198) rfl ?_
                    refine G.iload P at_198 rfl (pc' := 200) rfl ?_
                    refine G.zaload P A54 (i := 0) (by decide) (by decide) at_200 (pc' := 201) rfl ?_
                    show Goes p e below s n0 room_1.cells room_1.slots (Q0 Z p0 h0) (T.setTop (mkF m 201 #[.val (.int p0), .val (.int z2), .val (.int z3), .val (.int z4), .val (.int (79 : Int32)), .val (.ref b54), .val (.int x70), .val (.int (2 : Int32)), .val (.int (0 : Int32)), .val (.int (1 : Int32))] [(.int x58)]))
                    refine G.iconst P at_201 (v := (1 : Int32)) rfl (pc' := 202) rfl ?_
                    refine G.iload P at_202 rfl (pc' := 204) rfl ?_
                    have J212_204 : ∀ (z75 : Int32), z75 = (if (1 : Int32) < x70 then (1 : Int32) else (0 : Int32)) → Goes p e below s n0 room_1.cells room_1.slots (Q0 Z p0 h0) (T.setTop (mkF m 212 #[.val (.int p0), .val (.int z2), .val (.int z3), .val (.int z4), .val (.int (79 : Int32)), .val (.ref b54), .val (.int x70), .val (.int (2 : Int32)), .val (.int (0 : Int32)), .val (.int (1 : Int32))] [(.int z75), (.int x58)])) := by
                      intro z75 hz75
                      refine G.icmp_ne P at_212 (by decide) (pcY := 238) (by decide) (pcN := 215) rfl (fun c212 => ?_) (fun c212 => ?_)
                      · refine G.iconst P at_238 (v := (0 : Int32)) rfl (pc' := 239) rfl ?_
                        subst hx58 hx62 hx66 hz67 hz68 hz69 hx70 hz74 hz75
                        clear A54
                        exact G.ireturnN P (t := .boolean) rfl (by simp) rfl at_239 (by decide) (by decide) ⟨congrArg (fun z => some (Value.int z)) (by revert hr5 c193 c212; rcases hb1 with rfl | rfl <;> rcases hb2 with rfl | rfl <;> rcases hb3 with rfl | rfl <;> decide), trivial⟩
                      · refine G.aload P at_215 rfl rfl (pc' := 217) rfl ?_
                        refine G.iload P at_217 rfl (pc' := 219) rfl ?_
                        refine G.zaload P A54 (i := 1) (by decide) (by decide) at_219 (pc' := 220) rfl ?_
                        show Goes p e below s n0 room_1.cells room_1.slots (Q0 Z p0 h0) (T.setTop (mkF m 220 #[.val (.int p0), .val (.int z2), .val (.int z3), .val (.int z4), .val (.int (79 : Int32)), .val (.ref b54), .val (.int x70), .val (.int (2 : Int32)), .val (.int (0 : Int32)), .val (.int (1 : Int32))] [(.int x62)]))
                        refine G.iconst P at_220 (v := (2 : Int32)) rfl (pc' := 221) rfl ?_
                        refine G.iload P at_221 rfl (pc' := 223) rfl ?_
                        have J231_223 : ∀ (z76 : Int32), z76 = (if (2 : Int32) < x70 then (1 : Int32) else (0 : Int32)) → Goes p e below s n0 room_1.cells room_1.slots (Q0 Z p0 h0) (T.setTop (mkF m 231 #[.val (.int p0), .val (.int z2), .val (.int z3), .val (.int z4), .val (.int (79 : Int32)), .val (.ref b54), .val (.int x70), .val (.int (2 : Int32)), .val (.int (0 : Int32)), .val (.int (1 : Int32))] [(.int z76), (.int x62)])) := by
                          intro z76 hz76
                          have J239_231 : ∀ (z77 : Int32), z77 = (if x62 = z76 then (1 : Int32) else (0 : Int32)) → Goes p e below s n0 room_1.cells room_1.slots (Q0 Z p0 h0) (T.setTop (mkF m 239 #[.val (.int p0), .val (.int z2), .val (.int z3), .val (.int z4), .val (.int (79 : Int32)), .val (.ref b54), .val (.int x70), .val (.int (2 : Int32)), .val (.int (0 : Int32)), .val (.int (1 : Int32))] [(.int z77)])) := by
                            intro z77 hz77
                            subst hx58 hx62 hx66 hz67 hz68 hz69 hx70 hz74 hz75 hz76 hz77
                            clear A54
                            exact G.ireturnN P (t := .boolean) rfl (by simp) rfl at_239 (by decide) (by decide) ⟨congrArg (fun z => some (Value.int z)) (by revert hr5 c193 c212; rcases hb1 with rfl | rfl <;> rcases hb2 with rfl | rfl <;> rcases hb3 with rfl | rfl <;> decide), trivial⟩
                          refine G.icmp_ne P at_231 (by decide) (pcY := 238) (by decide) (pcN := 234) rfl (fun c231 => ?_) (fun c231 => ?_)
                          · refine G.iconst P at_238 (v := (0 : Int32)) rfl (pc' := 239) rfl ?_
                            exact J239_231 _ (by simp only [if_neg c231])
                          · refine G.iconst P at_234 (v := (1 : Int32)) rfl (pc' := 235) rfl ?_
                            refine G.goto P at_235 (by decide) (pc' := 239) (by decide) ?_
                            exact J239_231 _ (by simp only [if_pos c231])
                        refine G.icmp_ge P at_223 (by decide) (pcY := 230) (by decide) (pcN := 226) rfl (fun c223 => ?_) (fun c223 => ?_)
                        · refine G.iconst P at_230 (v := (0 : Int32)) rfl (pc' := 231) rfl ?_
                          exact J231_223 _ (by simp only [if_neg c223])
                        · refine G.iconst P at_226 (v := (1 : Int32)) rfl (pc' := 227) rfl ?_
                          refine G.goto P at_227 (by decide) (pc' := 231) (by decide) ?_
                          exact J231_223 _ (by simp only [if_pos c223])
                    refine G.icmp_ge P at_204 (by decide) (pcY := 211) (by decide) (pcN := 207) rfl (fun c204 => ?_) (fun c204 => ?_)
                    · refine G.iconst P at_211 (v := (0 : Int32)) rfl (pc' := 212) rfl ?_
                      exact J212_204 _ (by simp only [if_neg c204])
                    · refine G.iconst P at_207 (v := (1 : Int32)) rfl (pc' := 208) rfl ?_
                      refine G.goto P at_208 (by decide) (pc' := 212) (by decide) ?_
                      exact J212_204 _ (by simp only [if_pos c204])
                refine G.icmp_ge P at_185 (by decide) (pcY := 192) (by decide) (pcN := 188) rfl (fun c185 => ?_) (fun c185 => ?_)
                · refine G.iconst P at_192 (v := (0 : Int32)) rfl (pc' := 193) rfl ?_
                  exact J193_185 _ (by simp only [if_neg c185])
                · refine G.iconst P at_188 (v := (1 : Int32)) rfl (pc' := 189) rfl ?_
                  refine G.goto P at_189 (by decide) (pc' := 193) (by decide) ?_
                  exact J193_185 _ (by simp only [if_pos c185])
              refine G.if_eq P at_107 (by decide) (pcY := 114) (by decide) (pcN := 110) rfl (fun c107 => ?_) (fun c107 => ?_)
              · refine G.iconst P at_114 (v := (0 : Int32)) rfl (pc' := 115) rfl ?_
                exact J115_107 _ (by simp only [if_pos c107])
              · refine G.iconst P at_110 (v := (1 : Int32)) rfl (pc' := 111) rfl ?_
                refine G.goto P at_111 (by decide) (pc' := 115) (by decide) ?_
                exact J115_107 _ (by simp only [if_neg c107])
            refine G.if_eq P at_97 (by decide) (pcY := 104) (by decide) (pcN := 100) rfl (fun c97 => ?_) (fun c97 => ?_)
            · refine G.iconst P at_104 (v := (0 : Int32)) rfl (pc' := 105) rfl ?_
              exact J105_97 _ (by simp only [if_pos c97])
            · refine G.iconst P at_100 (v := (1 : Int32)) rfl (pc' := 101) rfl ?_
              refine G.goto P at_101 (by decide) (pc' := 105) (by decide) ?_
              exact J105_97 _ (by simp only [if_neg c97])
          refine G.if_eq P at_88 (by decide) (pcY := 95) (by decide) (pcN := 91) rfl (fun c88 => ?_) (fun c88 => ?_)
          · refine G.iconst P at_95 (v := (0 : Int32)) rfl (pc' := 96) rfl ?_
            exact J96_88 _ (by simp only [if_pos c88])
          · refine G.iconst P at_91 (v := (1 : Int32)) rfl (pc' := 92) rfl ?_
            refine G.goto P at_92 (by decide) (pc' := 96) (by decide) ?_
            exact J96_88 _ (by simp only [if_neg c88])
      refine G.if_eq P at_27 (by decide) (pcY := 34) (by decide) (pcN := 30) rfl (fun c27 => ?_) (fun c27 => ?_)
      · refine G.iconst P at_34 (v := (0 : Int32)) rfl (pc' := 35) rfl ?_
        exact J35_27 _ (by simp only [if_pos c27])
      · refine G.iconst P at_30 (v := (1 : Int32)) rfl (pc' := 31) rfl ?_
        refine G.goto P at_31 (by decide) (pc' := 35) (by decide) ?_
        exact J35_27 _ (by simp only [if_neg c27])
    refine G.if_eq P at_15 (by decide) (pcY := 22) (by decide) (pcN := 18) rfl (fun c15 => ?_) (fun c15 => ?_)
    · refine G.iconst P at_22 (v := (0 : Int32)) rfl (pc' := 23) rfl ?_
      exact J23_15 _ (by simp only [if_pos c15])
    · refine G.iconst P at_18 (v := (1 : Int32)) rfl (pc' := 19) rfl ?_
      refine G.goto P at_19 (by decide) (pc' := 23) (by decide) ?_
      exact J23_15 _ (by simp only [if_neg c15])
  refine G.if_eq P at_3 (by decide) (pcY := 10) (by decide) (pcN := 6) rfl (fun c3 => ?_) (fun c3 => ?_)
  · refine G.iconst P at_10 (v := (0 : Int32)) rfl (pc' := 11) rfl ?_
    exact J11_3 _ (by simp only [if_pos c3])
  · refine G.iconst P at_6 (v := (1 : Int32)) rfl (pc' := 7) rfl ?_
    refine G.goto P at_7 (by decide) (pc' := 11) (by decide) ?_
    exact J11_3 _ (by simp only [if_neg c3])
set_option maxRecDepth 65536 in
set_option maxHeartbeats 40000000 in
theorem comes_1 {Post : Tables → Env → Array Value → State → Outcome → State → Prop} (hpost : ∀ tb e args s v u, (limb_1_1.after args s (.returned v) u = true ∧ limb_1_2.after args s (.returned v) u = true) → FrameEnd s (.returned v) u (Jvm.fieldLocs frame_1_writes args s ++ Jvm.arrayLocs frame_1_arrays args s ++ Jvm.staticLocs frame_1_statics s) 16 128 → Post tb e args s (.returned v) u) :
    ArmFor flags0 classFile x code maxLocals ret World_1 tables_1 room_1 Calls_1 rest_1 Pre_1 Post := by
  intro l hfl _ _ p e ha hc hk s m args below hf hA hF happ hP
  obtain ⟨hcalls, hrest, hpre⟩ := hP
  obtain ⟨-, -, -, hnamed, -, -, -, hat⟩ := (Spec.applies_iff hf).mp happ
  obtain ⟨hg, hn⟩ := and_e (Cond.before_iff.mp (show (Jvm.Cond.and given_1 narrow_1).before args s = true from hpre))
  obtain ⟨hcount, g0⟩ := and_e hg
  have v0 := g0
  obtain ⟨w0, rfl⟩ : ∃ w0 : Value, args = #[w0] := by
    have hs : args.size = 1 := by simpa [Cond.value, given_1] using hcount
    obtain ⟨L⟩ := args
    match L, hs with
    | [w0], _ => exact ⟨w0, rfl⟩
  have hw := fun d (hd : d ∈ tables_1) => atoms_spec (ws := Jvm.Cond.code x code maxLocals ret :: tables_1) hat d (List.mem_cons_of_mem _ hd)
  obtain ⟨i0, ei0⟩ := is_v v0
  obtain rfl : w0 = (.int i0) := Option.some.inj ei0
  obtain ⟨n, o, h1, h2, h3, v, L, rfl, ⟨hQ, N⟩, hq⟩ := rm0 hw i0 s.heap (Nat.le_refl s.heap.size) tables_1 p e ha hc hk s m _ below hf ((Spec.applies_iff_loose hf).mp happ).1 ⟨rfl, State.Warmed39.refl s, rfl⟩ trivial
  obtain rfl : v = some (.int 1) := hQ.1
  refine ⟨n, _, h1, h2, h3, hpost _ _ _ _ _ _ ⟨Cond.after_iff.mpr rfl, Cond.after_iff.mpr (eq_i res_at (Term.int_eval (1)) rfl)⟩ ⟨hq.1, hq.2.1, (hq.2.2.sift fun y hy => Or.inr (N y hy)).mono (by decide) (by decide)⟩⟩
theorem main_1_1 : Claimed_1_1 := comes_1 fun _ _ _ _ _ _ h hF => ⟨h.1, hF⟩
theorem main_1_2 : Claimed_1_2 := comes_1 fun _ _ _ _ _ _ h hF => ⟨h.2, hF⟩
end Jvm.Pilot.@@N@@
namespace Jvm.Pilot.@@N@@
open Jvm Jvm.ClassFile Sem Op Lib Jvm.Free Jvm.Stand Jvm.Pilot.@@N@@.Jvm.D
/-! MADE BY PROGRAM (witnessworld.py) out of the Statement's table words and the real class files: 11 classes; the members and pool entries that the words name. The judged class is class 1, her method 1. -/
namespace start1
open Jvm.ClassFile
def u (s : String) : CpInfo := .utf8 (stringToUtf16 s)
/-- a pool by its gaps: so many unusable entries, then the entry; so many at the end -/
def gap : Nat → List CpInfo → List CpInfo
  | 0, r => r
  | n + 1, r => .unusable :: gap n r
def poolList (es : List (Nat × CpInfo)) (last : Nat) : List CpInfo := es.foldr (fun e r => gap e.1 (e.2 :: r)) (gap last [])
def pool (es : List (Nat × CpInfo)) (last : Nat) : Array CpInfo := ⟨poolList es last⟩
def fileOf (pool : Array CpInfo) (this : Nat) (attrs : Array Attribute := #[]) (ms : Array MethodInfo := #[]) (fl : Nat := 33) (sup : Nat := 0) (ifs : Array Nat := #[]) (fds : Array FieldInfo := #[]) : ClassFile where
  minorVersion := 0
  majorVersion := 65
  constantPool := pool
  accessFlags := fl
  thisClass := this
  superClass := sup
  interfaces := ifs
  fields := fds
  methods := ms
  attributes := attrs
def plain (name : String) (sup : Option ClassId) : Class where
  name := name
  kind := .ordinary
  loader := none
  accessFlags := 33
  super := sup
  interfaces := #[]
  cf := none
  fields := #[]
  methods := #[]
  instanceTypes := #[]
  staticTypes := #[]
  resolved := #[]
  callSites := []
  init := .initialized
  statics := none
  mirror := none

def pool0 : Array CpInfo := pool [(5, u "<init>"), (0, u "()V"), (1, .class_ 10), (1, u "java/lang/Object")] 113

def k0m0 : Method := { name := "<init>", desc := "()V", sig := { parameters := [], returnType := none }, accessFlags := 1, code := none }
/-- java/lang/Object -/
def k0 : Class := { plain "java/lang/Object" none with
  accessFlags := 33
  interfaces := #[]
  cf := some (fileOf pool0 8 #[] #[{ accessFlags := 1, nameIndex := 5, descriptorIndex := 6, attributes := #[] }] 33 0 #[] #[])
  fields := #[]
  methods := #[k0m0]
  instanceTypes := #[]
  staticTypes := #[]
  resolved := Array.replicate 124 none
  statics := none }

def pool1 : Array CpInfo := pool [(2, .class_ 4), (1, u "java/lang/Object"), (0, u "<init>"), (0, u "()V"), (0, .methodref 8 9), (0, .class_ 10), (0, .nameAndType 11 12), (0, u "com/example/rila/rila/store/StoreKeys"), (0, u "order"), (0, u "(ZZZ)B"), (0, .methodref 8 14), (0, .nameAndType 15 16), (0, u "termAt"), (0, u "(BI)I"), (0, .class_ 18), (0, u "com/example/rila/rila/store/StoreKeysOrderPinLaw"), (2, u "law"), (0, u "(I)Z")] 5

def k1m0 : Method := { name := "<init>", desc := "()V", sig := { parameters := [], returnType := none }, accessFlags := 2, code := none }
def k1c1 : Code := { maxStack := 3, maxLocals := 10, code := code, exceptionTable := #[], attributes := #[] }
def k1m1 : Method := { name := "law", desc := "(I)Z", sig := { parameters := [.int], returnType := some .boolean }, accessFlags := 9, code := some k1c1 }
/-- com/example/rila/rila/store/StoreKeysOrderPinLaw -/
def k1 : Class := { plain "com/example/rila/rila/store/StoreKeysOrderPinLaw" (some 0) with
  accessFlags := 49
  interfaces := #[]
  cf := some (fileOf pool1 17 #[] #[{ accessFlags := 2, nameIndex := 5, descriptorIndex := 6, attributes := #[] }, { accessFlags := 9, nameIndex := 21, descriptorIndex := 22, attributes := #[] }] 49 2 #[] #[])
  fields := #[]
  methods := #[k1m0, k1m1]
  instanceTypes := #[]
  staticTypes := #[]
  resolved := Array.replicate 28 none
  statics := none }

def pool2 : Array CpInfo := pool [(1, .class_ 2), (0, u "com/example/rila/rila/store/StoreKeys"), (1, .class_ 6), (1, u "java/lang/Object"), (0, u "<init>"), (0, u "()V"), (2, u "ORDERS"), (0, u "[B"), (48, u "termAt"), (0, u "(BI)I"), (12, u "TERM"), (0, u "B"), (2, u "TERM_ID"), (1, u "META"), (1, u "FIRING"), (1, u "REPRESENTATIVE"), (1, u "MEMBER"), (1, u "SPO"), (1, u "POS"), (1, u "OSP"), (1, u "SUBJECT"), (0, u "I"), (1, u "PREDICATE"), (1, u "OBJECT"), (1, u "CONTEXT_BIAS"), (0, u "INT_BYTES"), (1, u "STATEMENT_KEY_BYTES"), (1, u "LOOKUP_PREFIX_BYTES"), (1, u "TERMS"), (6, u "order"), (0, u "(ZZZ)B")] 37

def k2m0 : Method := { name := "<init>", desc := "()V", sig := { parameters := [], returnType := none }, accessFlags := 2, code := none }
def k2c1 : Code := { maxStack := 3, maxLocals := 3, code := prog_12_method_3_code, exceptionTable := #[], attributes := #[] }
def k2m1 : Method := { name := "termAt", desc := "(BI)I", sig := { parameters := [.byte, .int], returnType := some .int }, accessFlags := 8, code := some k2c1 }
def k2c2 : Code := { maxStack := 1, maxLocals := 4, code := prog_12_method_4_code, exceptionTable := #[], attributes := #[] }
def k2m2 : Method := { name := "order", desc := "(ZZZ)B", sig := { parameters := [.boolean, .boolean, .boolean], returnType := some .byte }, accessFlags := 8, code := some k2c2 }
/-- com/example/rila/rila/store/StoreKeys -/
def k2 : Class := { plain "com/example/rila/rila/store/StoreKeys" (some 0) with
  accessFlags := 48
  interfaces := #[]
  cf := some (fileOf pool2 1 #[] #[{ accessFlags := 2, nameIndex := 7, descriptorIndex := 8, attributes := #[] }, { accessFlags := 8, nameIndex := 61, descriptorIndex := 62, attributes := #[] }, { accessFlags := 8, nameIndex := 116, descriptorIndex := 117, attributes := #[] }] 48 4 #[] #[{ accessFlags := 24, nameIndex := 75, descriptorIndex := 76, attributes := #[] }, { accessFlags := 24, nameIndex := 79, descriptorIndex := 76, attributes := #[] }, { accessFlags := 24, nameIndex := 81, descriptorIndex := 76, attributes := #[] }, { accessFlags := 24, nameIndex := 83, descriptorIndex := 76, attributes := #[] }, { accessFlags := 24, nameIndex := 85, descriptorIndex := 76, attributes := #[] }, { accessFlags := 24, nameIndex := 87, descriptorIndex := 76, attributes := #[] }, { accessFlags := 24, nameIndex := 89, descriptorIndex := 76, attributes := #[] }, { accessFlags := 24, nameIndex := 91, descriptorIndex := 76, attributes := #[] }, { accessFlags := 24, nameIndex := 93, descriptorIndex := 76, attributes := #[] }, { accessFlags := 24, nameIndex := 95, descriptorIndex := 96, attributes := #[] }, { accessFlags := 24, nameIndex := 98, descriptorIndex := 96, attributes := #[] }, { accessFlags := 24, nameIndex := 100, descriptorIndex := 96, attributes := #[] }, { accessFlags := 24, nameIndex := 102, descriptorIndex := 96, attributes := #[] }, { accessFlags := 24, nameIndex := 103, descriptorIndex := 96, attributes := #[] }, { accessFlags := 24, nameIndex := 105, descriptorIndex := 96, attributes := #[] }, { accessFlags := 24, nameIndex := 107, descriptorIndex := 96, attributes := #[] }, { accessFlags := 26, nameIndex := 109, descriptorIndex := 96, attributes := #[] }, { accessFlags := 26, nameIndex := 11, descriptorIndex := 12, attributes := #[] }])
  fields := #[{ name := "TERM", type := .byte, accessFlags := 24, slot := 0, constantValue := 0 }, { name := "TERM_ID", type := .byte, accessFlags := 24, slot := 1, constantValue := 0 }, { name := "META", type := .byte, accessFlags := 24, slot := 2, constantValue := 0 }, { name := "FIRING", type := .byte, accessFlags := 24, slot := 3, constantValue := 0 }, { name := "REPRESENTATIVE", type := .byte, accessFlags := 24, slot := 4, constantValue := 0 }, { name := "MEMBER", type := .byte, accessFlags := 24, slot := 5, constantValue := 0 }, { name := "SPO", type := .byte, accessFlags := 24, slot := 6, constantValue := 0 }, { name := "POS", type := .byte, accessFlags := 24, slot := 7, constantValue := 0 }, { name := "OSP", type := .byte, accessFlags := 24, slot := 8, constantValue := 0 }, { name := "SUBJECT", type := .int, accessFlags := 24, slot := 9, constantValue := 0 }, { name := "PREDICATE", type := .int, accessFlags := 24, slot := 10, constantValue := 0 }, { name := "OBJECT", type := .int, accessFlags := 24, slot := 11, constantValue := 0 }, { name := "CONTEXT_BIAS", type := .int, accessFlags := 24, slot := 12, constantValue := 0 }, { name := "INT_BYTES", type := .int, accessFlags := 24, slot := 13, constantValue := 0 }, { name := "STATEMENT_KEY_BYTES", type := .int, accessFlags := 24, slot := 14, constantValue := 0 }, { name := "LOOKUP_PREFIX_BYTES", type := .int, accessFlags := 24, slot := 15, constantValue := 0 }, { name := "TERMS", type := .int, accessFlags := 26, slot := 16, constantValue := 0 }, { name := "ORDERS", type := (.array .byte), accessFlags := 26, slot := 17, constantValue := 0 }]
  methods := #[k2m0, k2m1, k2m2]
  instanceTypes := #[]
  staticTypes := #[.byte, .byte, .byte, .byte, .byte, .byte, .byte, .byte, .byte, .int, .int, .int, .int, .int, .int, .int, .int, (.array .byte)]
  resolved := Array.replicate 155 none
  statics := none }

def pool3 : Array CpInfo := pool [(1, u "java/lang/Cloneable"), (0, .class_ 1), (0, u "java/lang/Object"), (0, .class_ 3)] 3

/-- java/lang/Cloneable -/
def k3 : Class := { plain "java/lang/Cloneable" (some 0) with
  accessFlags := 1537
  interfaces := #[]
  cf := some (fileOf pool3 2 #[] #[] 1537 4 #[] #[])
  fields := #[]
  methods := #[]
  instanceTypes := #[]
  staticTypes := #[]
  resolved := Array.replicate 8 none
  statics := none }

def pool4 : Array CpInfo := pool [(1, u "java/io/Serializable"), (0, .class_ 1), (0, u "java/lang/Object"), (0, .class_ 3)] 3

/-- java/io/Serializable -/
def k4 : Class := { plain "java/io/Serializable" (some 0) with
  accessFlags := 1537
  interfaces := #[]
  cf := some (fileOf pool4 2 #[] #[] 1537 4 #[] #[])
  fields := #[]
  methods := #[]
  instanceTypes := #[]
  staticTypes := #[]
  resolved := Array.replicate 8 none
  statics := none }

/-- the primitive boolean -/
def k5 : Class := { plain "boolean" none with kind := .primitive 'Z', accessFlags := 0x411 }
/-- [Z -/
def k6 : Class := { plain "[Z" (some 0) with kind := .array 5 .boolean, interfaces := #[3, 4], accessFlags := 1041 }

/-- the primitive byte -/
def k7 : Class := { plain "byte" none with kind := .primitive 'B', accessFlags := 0x411 }
/-- [B -/
def k8 : Class := { plain "[B" (some 0) with kind := .array 7 .byte, interfaces := #[3, 4], accessFlags := 1041 }

/-- the primitive int -/
def k9 : Class := { plain "int" none with kind := .primitive 'I', accessFlags := 0x411 }
/-- [I -/
def k10 : Class := { plain "[I" (some 0) with kind := .array 9 .int, interfaces := #[3, 4], accessFlags := 1041 }

def heap : Heap := #[]
def classes : Array Class := #[k0, k1, k2, k3, k4, k5, k6, k7, k8, k9, k10]
def interned : List (Array UInt16 × Addr) := []
def slotsUsed : Nat := 0
def theMethod : MethodId := ⟨1, 1⟩
def args0 : Array Value := #[.int 5]
def aboutOver (below : List Frame) : State where
  vm := { classes := classes, interned := interned.toArray }
  heap := heap
  slotsUsed := slotsUsed
  threads := #[{ frames := .invoking theMethod args0 :: below }]
def below0 : List Frame := [.native { method := ⟨0, 0⟩, args := #[] }]
def about1 : State := aboutOver below0
def p0 : Program := .bare "" "" ""
def e0 : Env := launch0.env 0 0 0
theorem w_frames : about1.frames = Frame.invoking theMethod args0 :: below0 := rfl
set_option maxRecDepth 65536 in
theorem w_args : argsFit about1.vm theMethod args0 = true := by decide +kernel
set_option maxRecDepth 65536 in
theorem w_heap : heapFits about1 = true := by decide +kernel
set_option maxRecDepth 65536 in
theorem w_runnable : about1.curStatus? = some .runnable := by decide +kernel
set_option maxRecDepth 65536 in
theorem w_alone : about1.alone = true := by decide +kernel
set_option maxRecDepth 65536 in
theorem w_named : about1.methodNamed? x = some theMethod := by decide +kernel
set_option maxRecDepth 65536 in
theorem w_hears : about1.hears theMethod below0 = true := by decide +kernel
set_option maxRecDepth 65536 in
theorem w_ripe : about1.ripe theMethod args0 below0 = true := by decide +kernel
theorem w_running : about1.status = .running := rfl
set_option maxRecDepth 65536 in
theorem w_room : about1.hasRoom e0.platform room_1 = true :=
  launch0.hasRoom_least _ room_1 (by decide +kernel) (by decide +kernel) (by decide +kernel) (by decide +kernel) (by decide +kernel) (by decide +kernel)
theorem allAtoms_all (ts : List Jvm.Cond) (a : Array Jvm.Value) (st : Jvm.State) : (allAtoms ts).before a st = ts.all (fun c => c.before a st) := by
  induction ts with
  | nil => rfl
  | cons c t ih =>
    show (Jvm.Cond.and c (allAtoms t)).before a st = _
    rw [Jvm.Cond.before_and, ih, List.all_cons]
def words1 : List Jvm.Cond := Jvm.Cond.code x code maxLocals ret :: tables_1
/-- a 'code' word, met by the world's own term for the bytes: nothing is compared byte by byte -/
theorem code_word {y : MethodName} {bytes : ByteArray} {mx : Nat} {rt : Option FieldType} {a : Array Value} {s : State} {m : MethodId} {meth : Method} {c : Code} (h1 : s.methodNamed? y = some m) (h2 : s.vm.method? m = some meth) (h3 : meth.code = some c) (h4 : c.code = bytes)
    (h5 : (c.maxLocals == mx && c.exceptionTable.isEmpty && decide (c.maxStack ≤ mostOperands) && decide (meth.sig.returnType = rt) && !meth.locks && decide (parseMethodDescriptor y.desc = some meth.sig)) = true) : (Jvm.Cond.code y bytes mx rt).before a s = true := by
  simp only [Bool.and_eq_true, beq_iff_eq, Bool.not_eq_true', decide_eq_true_eq] at h5
  obtain ⟨⟨⟨⟨⟨g1, g2⟩, g3⟩, g4⟩, g5⟩, g6⟩ := h5
  simp [Cond.before, Cond.holds, Cond.value, h1, h2, h3, h4, g1, g2, g3, g4, g5, g6]
def isCode : Jvm.Cond → Bool
  | .code _ _ _ _ => true
  | _ => false
theorem all_split {L : List Jvm.Cond} {P : Jvm.Cond → Bool} (h1 : L.all (fun c => isCode c || P c) = true) (h2 : ∀ c ∈ L.filter isCode, P c = true) : L.all P = true := by
  refine List.all_eq_true.mpr fun c hc => ?_
  have h := List.all_eq_true.mp h1 c hc
  rcases Bool.eq_false_or_eq_true (isCode c) with hi | hi
  · exact h2 c (List.mem_filter.mpr ⟨hc, hi⟩)
  · simpa [hi] using h
set_option maxRecDepth 65536 in
theorem w_c0 : (Jvm.Cond.code x code maxLocals ret).before args0 about1 = true := code_word (m := ⟨1, 1⟩) (meth := k1m1) (c := k1c1) (by decide +kernel) rfl rfl rfl (by decide +kernel)
set_option maxRecDepth 65536 in
theorem w_c1 : (Jvm.Cond.code ({ cls := "com/example/rila/rila/store/StoreKeys", name := "order", desc := "(ZZZ)B" } : Jvm.MethodName) prog_12_method_4_code (4 : Nat) (Option.some Jvm.ClassFile.FieldType.byte)).before args0 about1 = true := code_word (m := ⟨2, 2⟩) (meth := k2m2) (c := k2c2) (by decide +kernel) rfl rfl rfl (by decide +kernel)
set_option maxRecDepth 65536 in
theorem w_c2 : (Jvm.Cond.code ({ cls := "com/example/rila/rila/store/StoreKeys", name := "termAt", desc := "(BI)I" } : Jvm.MethodName) prog_12_method_3_code (3 : Nat) (Option.some Jvm.ClassFile.FieldType.int)).before args0 about1 = true := code_word (m := ⟨2, 1⟩) (meth := k2m1) (c := k2c1) (by decide +kernel) rfl rfl rfl (by decide +kernel)
def codes1 : List Jvm.Cond := [Jvm.Cond.code x code maxLocals ret, Jvm.Cond.code ({ cls := "com/example/rila/rila/store/StoreKeys", name := "order", desc := "(ZZZ)B" } : Jvm.MethodName) prog_12_method_4_code (4 : Nat) (Option.some Jvm.ClassFile.FieldType.byte), Jvm.Cond.code ({ cls := "com/example/rila/rila/store/StoreKeys", name := "termAt", desc := "(BI)I" } : Jvm.MethodName) prog_12_method_3_code (3 : Nat) (Option.some Jvm.ClassFile.FieldType.int)]
set_option maxRecDepth 65536 in
theorem codes_eq : words1.filter isCode = codes1 := rfl
theorem w_codes : ∀ c ∈ words1.filter isCode, c.before args0 about1 = true := by
  rw [codes_eq]
  intro c hc
  simp only [codes1, List.mem_cons, List.not_mem_nil, or_false] at hc
  rcases hc with rfl | rfl | rfl
  · exact w_c0
  · exact w_c1
  · exact w_c2
set_option maxRecDepth 65536 in
theorem w_t1 : words1.all (fun c => isCode c || c.before args0 about1) = true := by decide +kernel
theorem w_tables : (allAtoms (Jvm.Cond.code x code maxLocals ret :: tables_1)).before args0 about1 = true := by
  rw [allAtoms_all]
  show words1.all (fun c => c.before args0 about1) = true
  refine all_split ?_ w_codes
  rw [w_t1]
set_option maxRecDepth 65536 in
theorem w_case : (Jvm.Cond.and given_1 narrow_1).before args0 about1 = true := by decide +kernel
theorem w_applies : (headSpec (Jvm.Cond.code x code maxLocals ret :: tables_1) room_1).applies x e0.platform about1 = true :=
  (Spec.applies_iff w_frames).mpr ⟨w_running, w_runnable, w_alone, w_named, w_hears, w_ripe, w_room, w_tables⟩
theorem atStart : AtStart classFile x code maxLocals ret World_1 tables_1 room_1 Calls_1 rest_1 Pre_1 launch0 p0 e0 about1 theMethod args0 below0 :=
  ⟨lists_1, trivial, launch0.admits_env _ _ _, launch0.least_env, fairChoices_fair.cas, fairChoices_fair.clock, w_frames, w_args, w_heap, w_applies, trivial, trivial, w_case⟩
end start1
theorem witness_1 : WitnessClaimed_1 := ⟨start1.p0, start1.e0, start1.about1, start1.theMethod, start1.args0, start1.below0, start1.atStart⟩
end Jvm.Pilot.@@N@@
