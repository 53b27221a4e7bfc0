import JvmDerived
import JvmDerived.Pilot.@@N@@Statement
import JvmDerived.Pilot.@@N@@Code
set_option linter.unusedVariables false
set_option linter.unusedSimpArgs false
namespace Jvm.OwnW
open Sem ClassFile Op Lib Jvm.Free Jvm.Stand Jvm.LawKit Jvm.RoadKit
/-- where a walk stands: the method's facts, the heap, nothing old written -/
def Pos (Z : State) (y : MethodName) (bytes : ByteArray) (maxL : Nat) (ret : Option FieldType) (n0 : Nat) (p : Program) (l : Launch) (e : Env) (R : Room) (s : State) (m : MethodId) (args : Array Value) (below : List Frame) (meth : Method) (c : Code) (T : State) (h : Heap) (cells slots : Nat) : Prop :=
  (p.tables.exec = Jvm.exec ∧ c.code = bytes ∧ c.maxLocals = maxL ∧ s.vm.findClass y.cls = some m.cls ∧ meth.name = y.name ∧ meth.sig.returnType = ret ∧ meth.locks = false ∧ Z.Warmed39 s.vm ∧ n0 ≤ s.heap.size) ∧
  ∃ locs, Stand p l e R s m args below meth c T locs cells slots ∧ T.heap = h ∧ Fr n0 locs
/-- the run from t comes to a return of which Q holds -/
def Goes (p : Program) (e : Env) (below : List Frame) (s : State) (n0 kc ks : Nat) (Q : Option Value → Heap → Prop) (t : State) : Prop :=
  ∃ s₂ o, Steps p.tables e below t s₂ ∧ s₂.status = .running ∧ Ended s₂ below o ∧ ∃ v L, o = .returned v ∧ (Q v s₂.heap ∧ Fr n0 L) ∧ FrameEnd s o s₂ L kc ks
/-- a method's contract: called with these arguments at the heap h0 it returns, and Q holds of the value and the heap -/
def Con (l : Launch) (Z : State) (y : MethodName) (bytes : ByteArray) (maxL : Nat) (ret : Option FieldType) (rm : Room) (n0 : Nat) (as : Array Value) (h0 : Heap) (Q : Option Value → Heap → Prop) : Prop :=
  ∀ ws : List Jvm.Cond, MetFree l y (head1 (Jvm.Cond.code y bytes maxL ret :: ws) rm) (fun a U => a = as ∧ Z.Warmed39 U.vm ∧ U.heap = h0) (fun _ _ _ _ _ => True) (fun _ U o U' => ∃ v L, o = .returned v ∧ (Q v U'.heap ∧ Fr n0 L) ∧ FrameEnd U o U' L rm.cells rm.slots)
section Base
variable {Z : State} {y : MethodName} {bytes : ByteArray} {maxL : Nat} {ret : Option FieldType} {n0 : Nat} {p : Program} {l : Launch} {e : Env} {R : Room} {s : State} {m : MethodId} {args : Array Value} {below : List Frame} {meth : Method} {c : Code} {T : State} {h : Heap} {cells slots kc ks : Nat} {Q : Option Value → Heap → Prop} {pc pc' pcY pcN : Nat} {L L' : Array Slot} {S : List Value} {a0 : Array Value}
theorem Goes.via {t t' : State} (k : ∀ target, Steps p.tables e below t' target → Steps p.tables e below t target) (G : Goes p e below s n0 kc ks Q t') : Goes p e below s n0 kc ks Q t := by
  obtain ⟨s₂, o, h1, r⟩ := G
  exact ⟨s₂, o, k _ h1, r⟩
theorem Goes.mono {Q' : Option Value → Heap → Prop} {t : State} (k : ∀ v h, Q' v h → Q v h) (G : Goes p e below s n0 kc ks Q' t) : Goes p e below s n0 kc ks Q t := by
  obtain ⟨s₂, o, h1, h2, h3, v, L, h4, ⟨h5, h6⟩, h7⟩ := G
  exact ⟨s₂, o, h1, h2, h3, v, L, h4, ⟨k _ _ h5, h6⟩, h7⟩
theorem Con.mono {rm : Room} {as : Array Value} {h0 : Heap} {Q' : Option Value → Heap → Prop} (K : Con l Z y bytes maxL ret rm n0 as h0 Q') (k : ∀ v h, Q' v h → Q v h) : Con l Z y bytes maxL ret rm n0 as h0 Q := by
  intro ws p e ha hc hk s m args below hf happ hP hK
  obtain ⟨n, o, h1, h2, h3, v, L, h4, ⟨h5, h6⟩, h7⟩ := K ws p e ha hc hk s m args below hf happ hP hK
  exact ⟨n, o, h1, h2, h3, v, L, h4, ⟨k _ _ h5, h6⟩, h7⟩
theorem Con.body {rm : Room} {as : Array Value} {h0 : Heap} {Ls : Array Slot} (pn : plainFor y = true) (hn0 : n0 ≤ h0.size) (ef : ∀ m, entryFrame m as maxL = mkF m 0 Ls [])
    (H : ∀ p e s m below meth c T, Pos Z y bytes maxL ret n0 p l e rm s m as below meth c T h0 0 0 → Goes p e below s n0 rm.cells rm.slots Q (T.setTop (mkF m 0 Ls []))) : Con l Z y bytes maxL ret rm n0 as h0 Q := by
  intro ws
  refine MetFree.of_bodySF pn hisR ?_
  intro p e s m args below meth c s₁ Bd hml0 hP hK
  obtain ⟨rfl, hZ, hh⟩ := hP
  have X0 : Stand p l e rm s m args below meth c s₁ [] 0 0 := Stand.of_body Bd
  have e0 : s₁.heap = h0 := by rw [← hh, Bd.state]; rfl
  rw [ef]
  exact H p e s m below meth c s₁ ⟨⟨Bd.exec, Bd.bytes, hml0, findClass_of_methodNamed Bd.named, (name_of_methodNamed Bd.named Bd.method).1, Bd.returns, Bd.notSynchronized, hZ, by rw [hh]; exact hn0⟩, [], X0, e0, Fr.nil n0⟩
theorem Pos.sz (P : Pos Z y bytes maxL ret n0 p l e R s m args below meth c T h cells slots) : n0 ≤ h.size := by
  obtain ⟨⟨-, -, -, -, -, -, -, -, hn0⟩, locs, X, rfl, -⟩ := P
  exact Nat.le_trans hn0 X.same.2.1
end Base
namespace G
section Plain
variable {Z : State} {y : MethodName} {bytes : ByteArray} {maxL : Nat} {ret : Option FieldType} {n0 : Nat} {p : Program} {l : Launch} {e : Env} {R : Room} {s : State} {m : MethodId} {args : Array Value} {below : List Frame} {meth : Method} {c : Code} {T : State} {h : Heap} {cells slots kc ks : Nat} {Q : Option Value → Heap → Prop} {pc pc' pcY pcN : Nat} {L L' : Array Slot} {S : List Value} {a0 : Array Value}
theorem iload (P : Pos Z y bytes maxL ret n0 p l e R s m args below meth c T h cells slots) {k : Nat} {v : Int32} (hd : decode bytes pc = .ok (.iload k, 2)) (hl : L[k]? = some (.val (.int v))) (hp : pc + 2 = pc') (k : Goes p e below s n0 kc ks Q (T.setTop (mkF m pc' L (.int v :: S)))) : Goes p e below s n0 kc ks Q (T.setTop (mkF m pc L S)) := by
  obtain ⟨⟨hx, rfl, rfl, hown, hnm, rfl, hlk, hZ, hn0⟩, locs, X, rfl, N⟩ := P
  subst hp
  exact k.via fun t q => XS.iload X.here hx rfl hd hl q
theorem iloadN (P : Pos Z y bytes maxL ret n0 p l e R s m args below meth c T h cells slots) {k : Fin 4} {v : Int32} (hd : decode bytes pc = .ok (.iload_n k, 1)) (hl : L[k.val]? = some (.val (.int v))) (hp : pc + 1 = pc') (k : Goes p e below s n0 kc ks Q (T.setTop (mkF m pc' L (.int v :: S)))) : Goes p e below s n0 kc ks Q (T.setTop (mkF m pc L S)) := by
  obtain ⟨⟨hx, rfl, rfl, hown, hnm, rfl, hlk, hZ, hn0⟩, locs, X, rfl, N⟩ := P
  subst hp
  exact k.via fun t q => XS.iloadN X.here hx rfl hd hl q
theorem lload (P : Pos Z y bytes maxL ret n0 p l e R s m args below meth c T h cells slots) {k : Nat} {v : Int64} (hd : decode bytes pc = .ok (.lload k, 2)) (hl : L[k]? = some (.val (.long v))) (hp : pc + 2 = pc') (k : Goes p e below s n0 kc ks Q (T.setTop (mkF m pc' L (.long v :: S)))) : Goes p e below s n0 kc ks Q (T.setTop (mkF m pc L S)) := by
  obtain ⟨⟨hx, rfl, rfl, hown, hnm, rfl, hlk, hZ, hn0⟩, locs, X, rfl, N⟩ := P
  subst hp
  exact k.via fun t q => XS.lload X.here hx rfl hd hl q
theorem lloadN (P : Pos Z y bytes maxL ret n0 p l e R s m args below meth c T h cells slots) {k : Fin 4} {v : Int64} (hd : decode bytes pc = .ok (.lload_n k, 1)) (hl : L[k.val]? = some (.val (.long v))) (hp : pc + 1 = pc') (k : Goes p e below s n0 kc ks Q (T.setTop (mkF m pc' L (.long v :: S)))) : Goes p e below s n0 kc ks Q (T.setTop (mkF m pc L S)) := by
  obtain ⟨⟨hx, rfl, rfl, hown, hnm, rfl, hlk, hZ, hn0⟩, locs, X, rfl, N⟩ := P
  subst hp
  exact k.via fun t q => XS.lloadN X.here hx rfl hd hl q
theorem aload (P : Pos Z y bytes maxL ret n0 p l e R s m args below meth c T h cells slots) {k : Nat} {v : Value} (hd : decode bytes pc = .ok (.aload k, 2)) (hl : L[k]? = some (.val v)) (hv : v.isRef = true) (hp : pc + 2 = pc') (k : Goes p e below s n0 kc ks Q (T.setTop (mkF m pc' L (v :: S)))) : Goes p e below s n0 kc ks Q (T.setTop (mkF m pc L S)) := by
  obtain ⟨⟨hx, rfl, rfl, hown, hnm, rfl, hlk, hZ, hn0⟩, locs, X, rfl, N⟩ := P
  subst hp
  exact k.via fun t q => XS.aload X.here hx rfl hd hl hv q
theorem aloadN (P : Pos Z y bytes maxL ret n0 p l e R s m args below meth c T h cells slots) {k : Fin 4} {v : Value} (hd : decode bytes pc = .ok (.aload_n k, 1)) (hl : L[k.val]? = some (.val v)) (hv : v.isRef = true) (hp : pc + 1 = pc') (k : Goes p e below s n0 kc ks Q (T.setTop (mkF m pc' L (v :: S)))) : Goes p e below s n0 kc ks Q (T.setTop (mkF m pc L S)) := by
  obtain ⟨⟨hx, rfl, rfl, hown, hnm, rfl, hlk, hZ, hn0⟩, locs, X, rfl, N⟩ := P
  subst hp
  exact k.via fun t q => XS.aloadN X.here hx rfl hd hl hv q
theorem istore (P : Pos Z y bytes maxL ret n0 p l e R s m args below meth c T h cells slots) {k : Nat} {v v' : Int32} (hd : decode bytes pc = .ok (.istore k, 2)) (hv : v = v') (hl : storeLocals L k (.int v') = some L') (hp : pc + 2 = pc') (k : Goes p e below s n0 kc ks Q (T.setTop (mkF m pc' L' S))) : Goes p e below s n0 kc ks Q (T.setTop (mkF m pc L (.int v :: S))) := by
  obtain ⟨⟨hx, rfl, rfl, hown, hnm, rfl, hlk, hZ, hn0⟩, locs, X, rfl, N⟩ := P
  subst hp hv
  exact k.via fun t q => XS.istore X.here hx rfl hd rfl hl q
theorem istoreN (P : Pos Z y bytes maxL ret n0 p l e R s m args below meth c T h cells slots) {k : Fin 4} {v v' : Int32} (hd : decode bytes pc = .ok (.istore_n k, 1)) (hv : v = v') (hl : storeLocals L k.val (.int v') = some L') (hp : pc + 1 = pc') (k : Goes p e below s n0 kc ks Q (T.setTop (mkF m pc' L' S))) : Goes p e below s n0 kc ks Q (T.setTop (mkF m pc L (.int v :: S))) := by
  obtain ⟨⟨hx, rfl, rfl, hown, hnm, rfl, hlk, hZ, hn0⟩, locs, X, rfl, N⟩ := P
  subst hp hv
  exact k.via fun t q => XS.istoreN X.here hx rfl hd rfl hl q
theorem lstore (P : Pos Z y bytes maxL ret n0 p l e R s m args below meth c T h cells slots) {k : Nat} {v v' : Int64} (hd : decode bytes pc = .ok (.lstore k, 2)) (hv : v = v') (hl : storeLocals L k (.long v') = some L') (hp : pc + 2 = pc') (k : Goes p e below s n0 kc ks Q (T.setTop (mkF m pc' L' S))) : Goes p e below s n0 kc ks Q (T.setTop (mkF m pc L (.long v :: S))) := by
  obtain ⟨⟨hx, rfl, rfl, hown, hnm, rfl, hlk, hZ, hn0⟩, locs, X, rfl, N⟩ := P
  subst hp hv
  exact k.via fun t q => XS.lstore X.here hx rfl hd rfl hl q
theorem lstoreN (P : Pos Z y bytes maxL ret n0 p l e R s m args below meth c T h cells slots) {k : Fin 4} {v v' : Int64} (hd : decode bytes pc = .ok (.lstore_n k, 1)) (hv : v = v') (hl : storeLocals L k.val (.long v') = some L') (hp : pc + 1 = pc') (k : Goes p e below s n0 kc ks Q (T.setTop (mkF m pc' L' S))) : Goes p e below s n0 kc ks Q (T.setTop (mkF m pc L (.long v :: S))) := by
  obtain ⟨⟨hx, rfl, rfl, hown, hnm, rfl, hlk, hZ, hn0⟩, locs, X, rfl, N⟩ := P
  subst hp hv
  exact k.via fun t q => XS.lstoreN X.here hx rfl hd rfl hl q
theorem astore (P : Pos Z y bytes maxL ret n0 p l e R s m args below meth c T h cells slots) {k : Nat} {v : Value} (hd : decode bytes pc = .ok (.astore k, 2)) (hv : v.isRef = true) (hl : storeLocals L k v = some L') (hp : pc + 2 = pc') (k : Goes p e below s n0 kc ks Q (T.setTop (mkF m pc' L' S))) : Goes p e below s n0 kc ks Q (T.setTop (mkF m pc L (v :: S))) := by
  obtain ⟨⟨hx, rfl, rfl, hown, hnm, rfl, hlk, hZ, hn0⟩, locs, X, rfl, N⟩ := P
  subst hp
  exact k.via fun t q => XS.astore X.here hx rfl hd rfl hv hl q
theorem astoreN (P : Pos Z y bytes maxL ret n0 p l e R s m args below meth c T h cells slots) {k : Fin 4} {v : Value} (hd : decode bytes pc = .ok (.astore_n k, 1)) (hv : v.isRef = true) (hl : storeLocals L k.val v = some L') (hp : pc + 1 = pc') (k : Goes p e below s n0 kc ks Q (T.setTop (mkF m pc' L' S))) : Goes p e below s n0 kc ks Q (T.setTop (mkF m pc L (v :: S))) := by
  obtain ⟨⟨hx, rfl, rfl, hown, hnm, rfl, hlk, hZ, hn0⟩, locs, X, rfl, N⟩ := P
  subst hp
  exact k.via fun t q => XS.astoreN X.here hx rfl hd rfl hv hl q
theorem iconst (P : Pos Z y bytes maxL ret n0 p l e R s m args below meth c T h cells slots) {i : Int} {v : Int32} (hd : decode bytes pc = .ok (.iconst i, 1)) (hv : Int32.ofInt i = v) (hp : pc + 1 = pc') (k : Goes p e below s n0 kc ks Q (T.setTop (mkF m pc' L (.int v :: S)))) : Goes p e below s n0 kc ks Q (T.setTop (mkF m pc L S)) := by
  obtain ⟨⟨hx, rfl, rfl, hown, hnm, rfl, hlk, hZ, hn0⟩, locs, X, rfl, N⟩ := P
  subst hp hv
  exact k.via fun t q => XS.iconst X.here hx rfl hd q
theorem bipush (P : Pos Z y bytes maxL ret n0 p l e R s m args below meth c T h cells slots) {i : Int} {v : Int32} (hd : decode bytes pc = .ok (.bipush i, 2)) (hv : (Int8.ofInt i).toInt32 = v) (hp : pc + 2 = pc') (k : Goes p e below s n0 kc ks Q (T.setTop (mkF m pc' L (.int v :: S)))) : Goes p e below s n0 kc ks Q (T.setTop (mkF m pc L S)) := by
  obtain ⟨⟨hx, rfl, rfl, hown, hnm, rfl, hlk, hZ, hn0⟩, locs, X, rfl, N⟩ := P
  subst hp hv
  exact k.via fun t q => XS.bipush X.here hx rfl hd q
theorem sipush (P : Pos Z y bytes maxL ret n0 p l e R s m args below meth c T h cells slots) {i : Int} {v : Int32} (hd : decode bytes pc = .ok (.sipush i, 3)) (hv : (Int16.ofInt i).toInt32 = v) (hp : pc + 3 = pc') (k : Goes p e below s n0 kc ks Q (T.setTop (mkF m pc' L (.int v :: S)))) : Goes p e below s n0 kc ks Q (T.setTop (mkF m pc L S)) := by
  obtain ⟨⟨hx, rfl, rfl, hown, hnm, rfl, hlk, hZ, hn0⟩, locs, X, rfl, N⟩ := P
  subst hp hv
  exact k.via fun t q => XS.sipush X.here hx rfl hd q
theorem lconst (P : Pos Z y bytes maxL ret n0 p l e R s m args below meth c T h cells slots) {i : Fin 2} {v : Int64} (hd : decode bytes pc = .ok (.lconst i, 1)) (hv : Int64.ofNat i = v) (hp : pc + 1 = pc') (k : Goes p e below s n0 kc ks Q (T.setTop (mkF m pc' L (.long v :: S)))) : Goes p e below s n0 kc ks Q (T.setTop (mkF m pc L S)) := by
  obtain ⟨⟨hx, rfl, rfl, hown, hnm, rfl, hlk, hZ, hn0⟩, locs, X, rfl, N⟩ := P
  subst hp hv
  exact k.via fun t q => XS.lconst X.here hx rfl hd q
theorem aconstNull (P : Pos Z y bytes maxL ret n0 p l e R s m args below meth c T h cells slots) (hd : decode bytes pc = .ok (.aconst_null, 1)) (hp : pc + 1 = pc') (k : Goes p e below s n0 kc ks Q (T.setTop (mkF m pc' L (.null :: S)))) : Goes p e below s n0 kc ks Q (T.setTop (mkF m pc L S)) := by
  obtain ⟨⟨hx, rfl, rfl, hown, hnm, rfl, hlk, hZ, hn0⟩, locs, X, rfl, N⟩ := P
  subst hp
  exact k.via fun t q => XS.aconstNull X.here hx rfl hd q
theorem iadd (P : Pos Z y bytes maxL ret n0 p l e R s m args below meth c T h cells slots) {x z : Int32} (hd : decode bytes pc = .ok (.iadd, 1)) (hp : pc + 1 = pc') (k : Goes p e below s n0 kc ks Q (T.setTop (mkF m pc' L (.int (x + z) :: S)))) : Goes p e below s n0 kc ks Q (T.setTop (mkF m pc L (.int z :: .int x :: S))) := by
  obtain ⟨⟨hx, rfl, rfl, hown, hnm, rfl, hlk, hZ, hn0⟩, locs, X, rfl, N⟩ := P
  subst hp
  exact k.via fun t q => XS.iadd X.here hx rfl hd rfl q
theorem isub (P : Pos Z y bytes maxL ret n0 p l e R s m args below meth c T h cells slots) {x z : Int32} (hd : decode bytes pc = .ok (.isub, 1)) (hp : pc + 1 = pc') (k : Goes p e below s n0 kc ks Q (T.setTop (mkF m pc' L (.int (x - z) :: S)))) : Goes p e below s n0 kc ks Q (T.setTop (mkF m pc L (.int z :: .int x :: S))) := by
  obtain ⟨⟨hx, rfl, rfl, hown, hnm, rfl, hlk, hZ, hn0⟩, locs, X, rfl, N⟩ := P
  subst hp
  exact k.via fun t q => XS.isub X.here hx rfl hd rfl q
theorem imul (P : Pos Z y bytes maxL ret n0 p l e R s m args below meth c T h cells slots) {x z : Int32} (hd : decode bytes pc = .ok (.imul, 1)) (hp : pc + 1 = pc') (k : Goes p e below s n0 kc ks Q (T.setTop (mkF m pc' L (.int (x * z) :: S)))) : Goes p e below s n0 kc ks Q (T.setTop (mkF m pc L (.int z :: .int x :: S))) := by
  obtain ⟨⟨hx, rfl, rfl, hown, hnm, rfl, hlk, hZ, hn0⟩, locs, X, rfl, N⟩ := P
  subst hp
  exact k.via fun t q => XS.imul X.here hx rfl hd rfl q
theorem iand (P : Pos Z y bytes maxL ret n0 p l e R s m args below meth c T h cells slots) {x z : Int32} (hd : decode bytes pc = .ok (.iand, 1)) (hp : pc + 1 = pc') (k : Goes p e below s n0 kc ks Q (T.setTop (mkF m pc' L (.int (x &&& z) :: S)))) : Goes p e below s n0 kc ks Q (T.setTop (mkF m pc L (.int z :: .int x :: S))) := by
  obtain ⟨⟨hx, rfl, rfl, hown, hnm, rfl, hlk, hZ, hn0⟩, locs, X, rfl, N⟩ := P
  subst hp
  exact k.via fun t q => XS.iand X.here hx rfl hd rfl q
theorem ior (P : Pos Z y bytes maxL ret n0 p l e R s m args below meth c T h cells slots) {x z : Int32} (hd : decode bytes pc = .ok (.ior, 1)) (hp : pc + 1 = pc') (k : Goes p e below s n0 kc ks Q (T.setTop (mkF m pc' L (.int (x ||| z) :: S)))) : Goes p e below s n0 kc ks Q (T.setTop (mkF m pc L (.int z :: .int x :: S))) := by
  obtain ⟨⟨hx, rfl, rfl, hown, hnm, rfl, hlk, hZ, hn0⟩, locs, X, rfl, N⟩ := P
  subst hp
  exact k.via fun t q => XS.ior X.here hx rfl hd rfl q
theorem ixor (P : Pos Z y bytes maxL ret n0 p l e R s m args below meth c T h cells slots) {x z : Int32} (hd : decode bytes pc = .ok (.ixor, 1)) (hp : pc + 1 = pc') (k : Goes p e below s n0 kc ks Q (T.setTop (mkF m pc' L (.int (x ^^^ z) :: S)))) : Goes p e below s n0 kc ks Q (T.setTop (mkF m pc L (.int z :: .int x :: S))) := by
  obtain ⟨⟨hx, rfl, rfl, hown, hnm, rfl, hlk, hZ, hn0⟩, locs, X, rfl, N⟩ := P
  subst hp
  exact k.via fun t q => XS.ixor X.here hx rfl hd rfl q
theorem ishl (P : Pos Z y bytes maxL ret n0 p l e R s m args below meth c T h cells slots) {x z : Int32} (hd : decode bytes pc = .ok (.ishl, 1)) (hp : pc + 1 = pc') (k : Goes p e below s n0 kc ks Q (T.setTop (mkF m pc' L (.int (x <<< (z &&& 31)) :: S)))) : Goes p e below s n0 kc ks Q (T.setTop (mkF m pc L (.int z :: .int x :: S))) := by
  obtain ⟨⟨hx, rfl, rfl, hown, hnm, rfl, hlk, hZ, hn0⟩, locs, X, rfl, N⟩ := P
  subst hp
  exact k.via fun t q => XS.ishl X.here hx rfl hd rfl q
theorem ishr (P : Pos Z y bytes maxL ret n0 p l e R s m args below meth c T h cells slots) {x z : Int32} (hd : decode bytes pc = .ok (.ishr, 1)) (hp : pc + 1 = pc') (k : Goes p e below s n0 kc ks Q (T.setTop (mkF m pc' L (.int (x >>> (z &&& 31)) :: S)))) : Goes p e below s n0 kc ks Q (T.setTop (mkF m pc L (.int z :: .int x :: S))) := by
  obtain ⟨⟨hx, rfl, rfl, hown, hnm, rfl, hlk, hZ, hn0⟩, locs, X, rfl, N⟩ := P
  subst hp
  exact k.via fun t q => XS.ishr X.here hx rfl hd rfl q
theorem iushr (P : Pos Z y bytes maxL ret n0 p l e R s m args below meth c T h cells slots) {x z : Int32} (hd : decode bytes pc = .ok (.iushr, 1)) (hp : pc + 1 = pc') (k : Goes p e below s n0 kc ks Q (T.setTop (mkF m pc' L (.int ((x.toUInt32 >>> (z &&& 31).toUInt32).toInt32) :: S)))) : Goes p e below s n0 kc ks Q (T.setTop (mkF m pc L (.int z :: .int x :: S))) := by
  obtain ⟨⟨hx, rfl, rfl, hown, hnm, rfl, hlk, hZ, hn0⟩, locs, X, rfl, N⟩ := P
  subst hp
  exact k.via fun t q => XS.iushr X.here hx rfl hd rfl q
theorem ladd (P : Pos Z y bytes maxL ret n0 p l e R s m args below meth c T h cells slots) {x z : Int64} (hd : decode bytes pc = .ok (.ladd, 1)) (hp : pc + 1 = pc') (k : Goes p e below s n0 kc ks Q (T.setTop (mkF m pc' L (.long (x + z) :: S)))) : Goes p e below s n0 kc ks Q (T.setTop (mkF m pc L (.long z :: .long x :: S))) := by
  obtain ⟨⟨hx, rfl, rfl, hown, hnm, rfl, hlk, hZ, hn0⟩, locs, X, rfl, N⟩ := P
  subst hp
  exact k.via fun t q => XS.ladd X.here hx rfl hd rfl q
theorem lsub (P : Pos Z y bytes maxL ret n0 p l e R s m args below meth c T h cells slots) {x z : Int64} (hd : decode bytes pc = .ok (.lsub, 1)) (hp : pc + 1 = pc') (k : Goes p e below s n0 kc ks Q (T.setTop (mkF m pc' L (.long (x - z) :: S)))) : Goes p e below s n0 kc ks Q (T.setTop (mkF m pc L (.long z :: .long x :: S))) := by
  obtain ⟨⟨hx, rfl, rfl, hown, hnm, rfl, hlk, hZ, hn0⟩, locs, X, rfl, N⟩ := P
  subst hp
  exact k.via fun t q => XS.lsub X.here hx rfl hd rfl q
theorem lmul (P : Pos Z y bytes maxL ret n0 p l e R s m args below meth c T h cells slots) {x z : Int64} (hd : decode bytes pc = .ok (.lmul, 1)) (hp : pc + 1 = pc') (k : Goes p e below s n0 kc ks Q (T.setTop (mkF m pc' L (.long (x * z) :: S)))) : Goes p e below s n0 kc ks Q (T.setTop (mkF m pc L (.long z :: .long x :: S))) := by
  obtain ⟨⟨hx, rfl, rfl, hown, hnm, rfl, hlk, hZ, hn0⟩, locs, X, rfl, N⟩ := P
  subst hp
  exact k.via fun t q => XS.lmul X.here hx rfl hd rfl q
theorem land (P : Pos Z y bytes maxL ret n0 p l e R s m args below meth c T h cells slots) {x z : Int64} (hd : decode bytes pc = .ok (.land, 1)) (hp : pc + 1 = pc') (k : Goes p e below s n0 kc ks Q (T.setTop (mkF m pc' L (.long (x &&& z) :: S)))) : Goes p e below s n0 kc ks Q (T.setTop (mkF m pc L (.long z :: .long x :: S))) := by
  obtain ⟨⟨hx, rfl, rfl, hown, hnm, rfl, hlk, hZ, hn0⟩, locs, X, rfl, N⟩ := P
  subst hp
  exact k.via fun t q => XS.land X.here hx rfl hd rfl q
theorem lor (P : Pos Z y bytes maxL ret n0 p l e R s m args below meth c T h cells slots) {x z : Int64} (hd : decode bytes pc = .ok (.lor, 1)) (hp : pc + 1 = pc') (k : Goes p e below s n0 kc ks Q (T.setTop (mkF m pc' L (.long (x ||| z) :: S)))) : Goes p e below s n0 kc ks Q (T.setTop (mkF m pc L (.long z :: .long x :: S))) := by
  obtain ⟨⟨hx, rfl, rfl, hown, hnm, rfl, hlk, hZ, hn0⟩, locs, X, rfl, N⟩ := P
  subst hp
  exact k.via fun t q => XS.lor X.here hx rfl hd rfl q
theorem lxor (P : Pos Z y bytes maxL ret n0 p l e R s m args below meth c T h cells slots) {x z : Int64} (hd : decode bytes pc = .ok (.lxor, 1)) (hp : pc + 1 = pc') (k : Goes p e below s n0 kc ks Q (T.setTop (mkF m pc' L (.long (x ^^^ z) :: S)))) : Goes p e below s n0 kc ks Q (T.setTop (mkF m pc L (.long z :: .long x :: S))) := by
  obtain ⟨⟨hx, rfl, rfl, hown, hnm, rfl, hlk, hZ, hn0⟩, locs, X, rfl, N⟩ := P
  subst hp
  exact k.via fun t q => XS.lxor X.here hx rfl hd rfl q
theorem lshl (P : Pos Z y bytes maxL ret n0 p l e R s m args below meth c T h cells slots) {x : Int64} {z : Int32} (hd : decode bytes pc = .ok (.lshl, 1)) (hp : pc + 1 = pc') (k : Goes p e below s n0 kc ks Q (T.setTop (mkF m pc' L (.long (x <<< (z &&& 0x3f).toInt64) :: S)))) : Goes p e below s n0 kc ks Q (T.setTop (mkF m pc L (.int z :: .long x :: S))) := by
  obtain ⟨⟨hx, rfl, rfl, hown, hnm, rfl, hlk, hZ, hn0⟩, locs, X, rfl, N⟩ := P
  subst hp
  exact k.via fun t q => XS.lshl X.here hx rfl hd rfl q
theorem lshr (P : Pos Z y bytes maxL ret n0 p l e R s m args below meth c T h cells slots) {x : Int64} {z : Int32} (hd : decode bytes pc = .ok (.lshr, 1)) (hp : pc + 1 = pc') (k : Goes p e below s n0 kc ks Q (T.setTop (mkF m pc' L (.long (x >>> (z &&& 0x3f).toInt64) :: S)))) : Goes p e below s n0 kc ks Q (T.setTop (mkF m pc L (.int z :: .long x :: S))) := by
  obtain ⟨⟨hx, rfl, rfl, hown, hnm, rfl, hlk, hZ, hn0⟩, locs, X, rfl, N⟩ := P
  subst hp
  exact k.via fun t q => XS.lshr X.here hx rfl hd rfl q
theorem lushr (P : Pos Z y bytes maxL ret n0 p l e R s m args below meth c T h cells slots) {x : Int64} {z : Int32} (hd : decode bytes pc = .ok (.lushr, 1)) (hp : pc + 1 = pc') (k : Goes p e below s n0 kc ks Q (T.setTop (mkF m pc' L (.long ((x.toUInt64 >>> (z &&& 0x3f).toInt64.toUInt64).toInt64) :: S)))) : Goes p e below s n0 kc ks Q (T.setTop (mkF m pc L (.int z :: .long x :: S))) := by
  obtain ⟨⟨hx, rfl, rfl, hown, hnm, rfl, hlk, hZ, hn0⟩, locs, X, rfl, N⟩ := P
  subst hp
  exact k.via fun t q => XS.lushr X.here hx rfl hd rfl q
theorem idiv (P : Pos Z y bytes maxL ret n0 p l e R s m args below meth c T h cells slots) {x z : Int32} (hd : decode bytes pc = .ok (.idiv, 1)) (hz : z ≠ 0) (hp : pc + 1 = pc') (k : Goes p e below s n0 kc ks Q (T.setTop (mkF m pc' L (.int (x / z) :: S)))) : Goes p e below s n0 kc ks Q (T.setTop (mkF m pc L (.int z :: .int x :: S))) := by
  obtain ⟨⟨hx, rfl, rfl, hown, hnm, rfl, hlk, hZ, hn0⟩, locs, X, rfl, N⟩ := P
  subst hp
  exact k.via fun t q => XS.idiv X.here hx rfl hd rfl hz q
theorem irem (P : Pos Z y bytes maxL ret n0 p l e R s m args below meth c T h cells slots) {x z : Int32} (hd : decode bytes pc = .ok (.irem, 1)) (hz : z ≠ 0) (hp : pc + 1 = pc') (k : Goes p e below s n0 kc ks Q (T.setTop (mkF m pc' L (.int (x % z) :: S)))) : Goes p e below s n0 kc ks Q (T.setTop (mkF m pc L (.int z :: .int x :: S))) := by
  obtain ⟨⟨hx, rfl, rfl, hown, hnm, rfl, hlk, hZ, hn0⟩, locs, X, rfl, N⟩ := P
  subst hp
  exact k.via fun t q => iremM X hx rfl hd rfl hz q
theorem ldiv (P : Pos Z y bytes maxL ret n0 p l e R s m args below meth c T h cells slots) {x z : Int64} (hd : decode bytes pc = .ok (.ldiv, 1)) (hz : z ≠ 0) (hp : pc + 1 = pc') (k : Goes p e below s n0 kc ks Q (T.setTop (mkF m pc' L (.long (x / z) :: S)))) : Goes p e below s n0 kc ks Q (T.setTop (mkF m pc L (.long z :: .long x :: S))) := by
  obtain ⟨⟨hx, rfl, rfl, hown, hnm, rfl, hlk, hZ, hn0⟩, locs, X, rfl, N⟩ := P
  subst hp
  exact k.via fun t q => XS.ldiv X.here hx rfl hd rfl hz q
theorem lrem (P : Pos Z y bytes maxL ret n0 p l e R s m args below meth c T h cells slots) {x z : Int64} (hd : decode bytes pc = .ok (.lrem, 1)) (hz : z ≠ 0) (hp : pc + 1 = pc') (k : Goes p e below s n0 kc ks Q (T.setTop (mkF m pc' L (.long (x % z) :: S)))) : Goes p e below s n0 kc ks Q (T.setTop (mkF m pc L (.long z :: .long x :: S))) := by
  obtain ⟨⟨hx, rfl, rfl, hown, hnm, rfl, hlk, hZ, hn0⟩, locs, X, rfl, N⟩ := P
  subst hp
  exact k.via fun t q => XS.lrem X.here hx rfl hd rfl hz (by rw [lrem_mod]; exact q)
theorem ineg (P : Pos Z y bytes maxL ret n0 p l e R s m args below meth c T h cells slots) {x : Int32} (hd : decode bytes pc = .ok (.ineg, 1)) (hp : pc + 1 = pc') (k : Goes p e below s n0 kc ks Q (T.setTop (mkF m pc' L (.int (-x) :: S)))) : Goes p e below s n0 kc ks Q (T.setTop (mkF m pc L (.int x :: S))) := by
  obtain ⟨⟨hx, rfl, rfl, hown, hnm, rfl, hlk, hZ, hn0⟩, locs, X, rfl, N⟩ := P
  subst hp
  exact k.via fun t q => XS.ineg X.here hx rfl hd rfl q
theorem lneg (P : Pos Z y bytes maxL ret n0 p l e R s m args below meth c T h cells slots) {x : Int64} (hd : decode bytes pc = .ok (.lneg, 1)) (hp : pc + 1 = pc') (k : Goes p e below s n0 kc ks Q (T.setTop (mkF m pc' L (.long (-x) :: S)))) : Goes p e below s n0 kc ks Q (T.setTop (mkF m pc L (.long x :: S))) := by
  obtain ⟨⟨hx, rfl, rfl, hown, hnm, rfl, hlk, hZ, hn0⟩, locs, X, rfl, N⟩ := P
  subst hp
  exact k.via fun t q => XS.lneg X.here hx rfl hd rfl q
theorem i2l (P : Pos Z y bytes maxL ret n0 p l e R s m args below meth c T h cells slots) {x : Int32} (hd : decode bytes pc = .ok (.i2l, 1)) (hp : pc + 1 = pc') (k : Goes p e below s n0 kc ks Q (T.setTop (mkF m pc' L (.long (x.toInt64) :: S)))) : Goes p e below s n0 kc ks Q (T.setTop (mkF m pc L (.int x :: S))) := by
  obtain ⟨⟨hx, rfl, rfl, hown, hnm, rfl, hlk, hZ, hn0⟩, locs, X, rfl, N⟩ := P
  subst hp
  exact k.via fun t q => XS.i2l X.here hx rfl hd rfl q
theorem l2i (P : Pos Z y bytes maxL ret n0 p l e R s m args below meth c T h cells slots) {x : Int64} (hd : decode bytes pc = .ok (.l2i, 1)) (hp : pc + 1 = pc') (k : Goes p e below s n0 kc ks Q (T.setTop (mkF m pc' L (.int (x.toInt32) :: S)))) : Goes p e below s n0 kc ks Q (T.setTop (mkF m pc L (.long x :: S))) := by
  obtain ⟨⟨hx, rfl, rfl, hown, hnm, rfl, hlk, hZ, hn0⟩, locs, X, rfl, N⟩ := P
  subst hp
  exact k.via fun t q => XS.l2i X.here hx rfl hd rfl q
theorem i2b (P : Pos Z y bytes maxL ret n0 p l e R s m args below meth c T h cells slots) {x : Int32} (hd : decode bytes pc = .ok (.i2b, 1)) (hp : pc + 1 = pc') (k : Goes p e below s n0 kc ks Q (T.setTop (mkF m pc' L (.int (x.toInt8.toInt32) :: S)))) : Goes p e below s n0 kc ks Q (T.setTop (mkF m pc L (.int x :: S))) := by
  obtain ⟨⟨hx, rfl, rfl, hown, hnm, rfl, hlk, hZ, hn0⟩, locs, X, rfl, N⟩ := P
  subst hp
  exact k.via fun t q => XS.i2b X.here hx rfl hd rfl q
theorem i2s (P : Pos Z y bytes maxL ret n0 p l e R s m args below meth c T h cells slots) {x : Int32} (hd : decode bytes pc = .ok (.i2s, 1)) (hp : pc + 1 = pc') (k : Goes p e below s n0 kc ks Q (T.setTop (mkF m pc' L (.int (x.toInt16.toInt32) :: S)))) : Goes p e below s n0 kc ks Q (T.setTop (mkF m pc L (.int x :: S))) := by
  obtain ⟨⟨hx, rfl, rfl, hown, hnm, rfl, hlk, hZ, hn0⟩, locs, X, rfl, N⟩ := P
  subst hp
  exact k.via fun t q => XS.i2s X.here hx rfl hd rfl q
theorem i2c (P : Pos Z y bytes maxL ret n0 p l e R s m args below meth c T h cells slots) {x : Int32} (hd : decode bytes pc = .ok (.i2c, 1)) (hp : pc + 1 = pc') (k : Goes p e below s n0 kc ks Q (T.setTop (mkF m pc' L (.int (x.toUInt32.toUInt16.toUInt32.toInt32) :: S)))) : Goes p e below s n0 kc ks Q (T.setTop (mkF m pc L (.int x :: S))) := by
  obtain ⟨⟨hx, rfl, rfl, hown, hnm, rfl, hlk, hZ, hn0⟩, locs, X, rfl, N⟩ := P
  subst hp
  exact k.via fun t q => XS.i2c X.here hx rfl hd rfl q
theorem lcmp (P : Pos Z y bytes maxL ret n0 p l e R s m args below meth c T h cells slots) {x z : Int64} (hd : decode bytes pc = .ok (.lcmp, 1)) (hp : pc + 1 = pc') (k : Goes p e below s n0 kc ks Q (T.setTop (mkF m pc' L (.int (lcmpW x z) :: S)))) : Goes p e below s n0 kc ks Q (T.setTop (mkF m pc L (.long z :: .long x :: S))) := by
  obtain ⟨⟨hx, rfl, rfl, hown, hnm, rfl, hlk, hZ, hn0⟩, locs, X, rfl, N⟩ := P
  subst hp
  exact k.via fun t q => XS.lcmp X.here hx rfl hd rfl q
theorem iinc (P : Pos Z y bytes maxL ret n0 p l e R s m args below meth c T h cells slots) {k : Nat} {i : Int} {x v' : Int32} (hd : decode bytes pc = .ok (.iinc k i, 3)) (hl : L[k]? = some (.val (.int x))) (hv : x + Int32.ofInt i = v') (hl' : storeLocals L k (.int v') = some L') (hp : pc + 3 = pc') (k : Goes p e below s n0 kc ks Q (T.setTop (mkF m pc' L' S))) : Goes p e below s n0 kc ks Q (T.setTop (mkF m pc L S)) := by
  obtain ⟨⟨hx, rfl, rfl, hown, hnm, rfl, hlk, hZ, hn0⟩, locs, X, rfl, N⟩ := P
  subst hp hv
  exact k.via fun t q => XS.iinc X.here hx rfl hd hl hl' q
theorem dup (P : Pos Z y bytes maxL ret n0 p l e R s m args below meth c T h cells slots) {v : Value} (hd : decode bytes pc = .ok (.dup, 1)) (hc : v.category = 1) (hp : pc + 1 = pc') (k : Goes p e below s n0 kc ks Q (T.setTop (mkF m pc' L (v :: v :: S)))) : Goes p e below s n0 kc ks Q (T.setTop (mkF m pc L (v :: S))) := by
  obtain ⟨⟨hx, rfl, rfl, hown, hnm, rfl, hlk, hZ, hn0⟩, locs, X, rfl, N⟩ := P
  subst hp
  exact k.via fun t q => XS.dup X.here hx rfl hd rfl hc q
theorem pop (P : Pos Z y bytes maxL ret n0 p l e R s m args below meth c T h cells slots) {v : Value} (hd : decode bytes pc = .ok (.pop, 1)) (hc : v.category = 1) (hp : pc + 1 = pc') (k : Goes p e below s n0 kc ks Q (T.setTop (mkF m pc' L S))) : Goes p e below s n0 kc ks Q (T.setTop (mkF m pc L (v :: S))) := by
  obtain ⟨⟨hx, rfl, rfl, hown, hnm, rfl, hlk, hZ, hn0⟩, locs, X, rfl, N⟩ := P
  subst hp
  exact k.via fun t q => XS.pop X.here hx rfl hd rfl hc q
theorem dupX1 (P : Pos Z y bytes maxL ret n0 p l e R s m args below meth c T h cells slots) {v u : Value} (hd : decode bytes pc = .ok (.dup_x1, 1)) (hc : v.category = 1) (hc' : u.category = 1) (hp : pc + 1 = pc') (k : Goes p e below s n0 kc ks Q (T.setTop (mkF m pc' L (v :: u :: v :: S)))) : Goes p e below s n0 kc ks Q (T.setTop (mkF m pc L (v :: u :: S))) := by
  obtain ⟨⟨hx, rfl, rfl, hown, hnm, rfl, hlk, hZ, hn0⟩, locs, X, rfl, N⟩ := P
  subst hp
  exact k.via fun t q => XS.dupX1 X.here hx rfl hd rfl hc hc' q
theorem dup2 (P : Pos Z y bytes maxL ret n0 p l e R s m args below meth c T h cells slots) {v u : Value} (hd : decode bytes pc = .ok (.dup2, 1)) (hc : v.category = 1) (hc' : u.category = 1) (hp : pc + 1 = pc') (k : Goes p e below s n0 kc ks Q (T.setTop (mkF m pc' L (v :: u :: v :: u :: S)))) : Goes p e below s n0 kc ks Q (T.setTop (mkF m pc L (v :: u :: S))) := by
  obtain ⟨⟨hx, rfl, rfl, hown, hnm, rfl, hlk, hZ, hn0⟩, locs, X, rfl, N⟩ := P
  subst hp
  exact k.via fun t q => XT.dup2 X.here hx rfl hd rfl hc hc' q
theorem pop2L (P : Pos Z y bytes maxL ret n0 p l e R s m args below meth c T h cells slots) {v : Int64} (hd : decode bytes pc = .ok (.pop2, 1)) (hp : pc + 1 = pc') (k : Goes p e below s n0 kc ks Q (T.setTop (mkF m pc' L S))) : Goes p e below s n0 kc ks Q (T.setTop (mkF m pc L (.long v :: S))) := by
  obtain ⟨⟨hx, rfl, rfl, hown, hnm, rfl, hlk, hZ, hn0⟩, locs, X, rfl, N⟩ := P
  subst hp
  refine k.via fun t q => ?_
  jvm_step X.here [X.here.top, hx, hd, Value.category]
  exact q
theorem goto (P : Pos Z y bytes maxL ret n0 p l e R s m args below meth c T h cells slots) {o : Int} (hd : decode bytes pc = .ok (.goto o, 3)) (ho : 0 ≤ (pc : Int) + o) (hp : ((pc : Int) + o).toNat = pc') (k : Goes p e below s n0 kc ks Q (T.setTop (mkF m pc' L S))) : Goes p e below s n0 kc ks Q (T.setTop (mkF m pc L S)) := by
  obtain ⟨⟨hx, rfl, rfl, hown, hnm, rfl, hlk, hZ, hn0⟩, locs, X, rfl, N⟩ := P
  exact k.via fun t q => XS.goto X.here hx rfl (pc0 := pc) (pc' := pc') rfl hd ho hp q
theorem icmp_lt (P : Pos Z y bytes maxL ret n0 p l e R s m args below meth c T h cells slots) {x z : Int32} {o : Int} (hd : decode bytes pc = .ok (.if_icmp .lt o, 3)) (ho : 0 ≤ (pc : Int) + o) (hY : ((pc : Int) + o).toNat = pcY) (hN : pc + 3 = pcN) (kY : x < z → Goes p e below s n0 kc ks Q (T.setTop (mkF m pcY L S))) (kN : ¬ x < z → Goes p e below s n0 kc ks Q (T.setTop (mkF m pcN L S))) : Goes p e below s n0 kc ks Q (T.setTop (mkF m pc L (.int z :: .int x :: S))) := by
  obtain ⟨⟨hx, rfl, rfl, hown, hnm, rfl, hlk, hZ, hn0⟩, locs, X, rfl, N⟩ := P
  by_cases q : x < z
  · exact (kY q).via fun t r => XS.icmpYes X.here hx rfl (pc0 := pc) (pc' := pcY) rfl hd rfl (tlt q).1 ho hY r
  · subst hN
    exact (kN q).via fun t r => XS.icmpNo X.here hx rfl hd rfl (flt q).1 r
theorem if_lt (P : Pos Z y bytes maxL ret n0 p l e R s m args below meth c T h cells slots) {x : Int32} {o : Int} (hd : decode bytes pc = .ok (.ifCond .lt o, 3)) (ho : 0 ≤ (pc : Int) + o) (hY : ((pc : Int) + o).toNat = pcY) (hN : pc + 3 = pcN) (kY : x < 0 → Goes p e below s n0 kc ks Q (T.setTop (mkF m pcY L S))) (kN : ¬ x < 0 → Goes p e below s n0 kc ks Q (T.setTop (mkF m pcN L S))) : Goes p e below s n0 kc ks Q (T.setTop (mkF m pc L (.int x :: S))) := by
  obtain ⟨⟨hx, rfl, rfl, hown, hnm, rfl, hlk, hZ, hn0⟩, locs, X, rfl, N⟩ := P
  by_cases q : x < 0
  · exact (kY q).via fun t r => XS.ifYes X.here hx rfl (pc0 := pc) (pc' := pcY) rfl hd rfl ((if0 _ _).trans (tlt q).1) ho hY r
  · subst hN
    exact (kN q).via fun t r => XS.ifNo X.here hx rfl hd rfl ((if0 _ _).trans (flt q).1) r
theorem icmp_ge (P : Pos Z y bytes maxL ret n0 p l e R s m args below meth c T h cells slots) {x z : Int32} {o : Int} (hd : decode bytes pc = .ok (.if_icmp .ge o, 3)) (ho : 0 ≤ (pc : Int) + o) (hY : ((pc : Int) + o).toNat = pcY) (hN : pc + 3 = pcN) (kY : ¬ x < z → Goes p e below s n0 kc ks Q (T.setTop (mkF m pcY L S))) (kN : x < z → Goes p e below s n0 kc ks Q (T.setTop (mkF m pcN L S))) : Goes p e below s n0 kc ks Q (T.setTop (mkF m pc L (.int z :: .int x :: S))) := by
  obtain ⟨⟨hx, rfl, rfl, hown, hnm, rfl, hlk, hZ, hn0⟩, locs, X, rfl, N⟩ := P
  by_cases q : x < z
  · subst hN
    exact (kN q).via fun t r => XS.icmpNo X.here hx rfl hd rfl (tlt q).2.1 r
  · exact (kY q).via fun t r => XS.icmpYes X.here hx rfl (pc0 := pc) (pc' := pcY) rfl hd rfl (flt q).2.1 ho hY r
theorem if_ge (P : Pos Z y bytes maxL ret n0 p l e R s m args below meth c T h cells slots) {x : Int32} {o : Int} (hd : decode bytes pc = .ok (.ifCond .ge o, 3)) (ho : 0 ≤ (pc : Int) + o) (hY : ((pc : Int) + o).toNat = pcY) (hN : pc + 3 = pcN) (kY : ¬ x < 0 → Goes p e below s n0 kc ks Q (T.setTop (mkF m pcY L S))) (kN : x < 0 → Goes p e below s n0 kc ks Q (T.setTop (mkF m pcN L S))) : Goes p e below s n0 kc ks Q (T.setTop (mkF m pc L (.int x :: S))) := by
  obtain ⟨⟨hx, rfl, rfl, hown, hnm, rfl, hlk, hZ, hn0⟩, locs, X, rfl, N⟩ := P
  by_cases q : x < 0
  · subst hN
    exact (kN q).via fun t r => XS.ifNo X.here hx rfl hd rfl ((if0 _ _).trans (tlt q).2.1) r
  · exact (kY q).via fun t r => XS.ifYes X.here hx rfl (pc0 := pc) (pc' := pcY) rfl hd rfl ((if0 _ _).trans (flt q).2.1) ho hY r
theorem icmp_gt (P : Pos Z y bytes maxL ret n0 p l e R s m args below meth c T h cells slots) {x z : Int32} {o : Int} (hd : decode bytes pc = .ok (.if_icmp .gt o, 3)) (ho : 0 ≤ (pc : Int) + o) (hY : ((pc : Int) + o).toNat = pcY) (hN : pc + 3 = pcN) (kY : z < x → Goes p e below s n0 kc ks Q (T.setTop (mkF m pcY L S))) (kN : ¬ z < x → Goes p e below s n0 kc ks Q (T.setTop (mkF m pcN L S))) : Goes p e below s n0 kc ks Q (T.setTop (mkF m pc L (.int z :: .int x :: S))) := by
  obtain ⟨⟨hx, rfl, rfl, hown, hnm, rfl, hlk, hZ, hn0⟩, locs, X, rfl, N⟩ := P
  by_cases q : z < x
  · exact (kY q).via fun t r => XS.icmpYes X.here hx rfl (pc0 := pc) (pc' := pcY) rfl hd rfl (tlt q).2.2.1 ho hY r
  · subst hN
    exact (kN q).via fun t r => XS.icmpNo X.here hx rfl hd rfl (flt q).2.2.1 r
theorem if_gt (P : Pos Z y bytes maxL ret n0 p l e R s m args below meth c T h cells slots) {x : Int32} {o : Int} (hd : decode bytes pc = .ok (.ifCond .gt o, 3)) (ho : 0 ≤ (pc : Int) + o) (hY : ((pc : Int) + o).toNat = pcY) (hN : pc + 3 = pcN) (kY : 0 < x → Goes p e below s n0 kc ks Q (T.setTop (mkF m pcY L S))) (kN : ¬ 0 < x → Goes p e below s n0 kc ks Q (T.setTop (mkF m pcN L S))) : Goes p e below s n0 kc ks Q (T.setTop (mkF m pc L (.int x :: S))) := by
  obtain ⟨⟨hx, rfl, rfl, hown, hnm, rfl, hlk, hZ, hn0⟩, locs, X, rfl, N⟩ := P
  by_cases q : 0 < x
  · exact (kY q).via fun t r => XS.ifYes X.here hx rfl (pc0 := pc) (pc' := pcY) rfl hd rfl ((if0 _ _).trans (tlt q).2.2.1) ho hY r
  · subst hN
    exact (kN q).via fun t r => XS.ifNo X.here hx rfl hd rfl ((if0 _ _).trans (flt q).2.2.1) r
theorem icmp_le (P : Pos Z y bytes maxL ret n0 p l e R s m args below meth c T h cells slots) {x z : Int32} {o : Int} (hd : decode bytes pc = .ok (.if_icmp .le o, 3)) (ho : 0 ≤ (pc : Int) + o) (hY : ((pc : Int) + o).toNat = pcY) (hN : pc + 3 = pcN) (kY : ¬ z < x → Goes p e below s n0 kc ks Q (T.setTop (mkF m pcY L S))) (kN : z < x → Goes p e below s n0 kc ks Q (T.setTop (mkF m pcN L S))) : Goes p e below s n0 kc ks Q (T.setTop (mkF m pc L (.int z :: .int x :: S))) := by
  obtain ⟨⟨hx, rfl, rfl, hown, hnm, rfl, hlk, hZ, hn0⟩, locs, X, rfl, N⟩ := P
  by_cases q : z < x
  · subst hN
    exact (kN q).via fun t r => XS.icmpNo X.here hx rfl hd rfl (tlt q).2.2.2 r
  · exact (kY q).via fun t r => XS.icmpYes X.here hx rfl (pc0 := pc) (pc' := pcY) rfl hd rfl (flt q).2.2.2 ho hY r
theorem if_le (P : Pos Z y bytes maxL ret n0 p l e R s m args below meth c T h cells slots) {x : Int32} {o : Int} (hd : decode bytes pc = .ok (.ifCond .le o, 3)) (ho : 0 ≤ (pc : Int) + o) (hY : ((pc : Int) + o).toNat = pcY) (hN : pc + 3 = pcN) (kY : ¬ 0 < x → Goes p e below s n0 kc ks Q (T.setTop (mkF m pcY L S))) (kN : 0 < x → Goes p e below s n0 kc ks Q (T.setTop (mkF m pcN L S))) : Goes p e below s n0 kc ks Q (T.setTop (mkF m pc L (.int x :: S))) := by
  obtain ⟨⟨hx, rfl, rfl, hown, hnm, rfl, hlk, hZ, hn0⟩, locs, X, rfl, N⟩ := P
  by_cases q : 0 < x
  · subst hN
    exact (kN q).via fun t r => XS.ifNo X.here hx rfl hd rfl ((if0 _ _).trans (tlt q).2.2.2) r
  · exact (kY q).via fun t r => XS.ifYes X.here hx rfl (pc0 := pc) (pc' := pcY) rfl hd rfl ((if0 _ _).trans (flt q).2.2.2) ho hY r
theorem icmp_eq (P : Pos Z y bytes maxL ret n0 p l e R s m args below meth c T h cells slots) {x z : Int32} {o : Int} (hd : decode bytes pc = .ok (.if_icmp .eq o, 3)) (ho : 0 ≤ (pc : Int) + o) (hY : ((pc : Int) + o).toNat = pcY) (hN : pc + 3 = pcN) (kY : x = z → Goes p e below s n0 kc ks Q (T.setTop (mkF m pcY L S))) (kN : ¬ x = z → Goes p e below s n0 kc ks Q (T.setTop (mkF m pcN L S))) : Goes p e below s n0 kc ks Q (T.setTop (mkF m pc L (.int z :: .int x :: S))) := by
  obtain ⟨⟨hx, rfl, rfl, hown, hnm, rfl, hlk, hZ, hn0⟩, locs, X, rfl, N⟩ := P
  by_cases q : x = z
  · exact (kY q).via fun t r => XS.icmpYes X.here hx rfl (pc0 := pc) (pc' := pcY) rfl hd rfl (teq q).1 ho hY r
  · subst hN
    exact (kN q).via fun t r => XS.icmpNo X.here hx rfl hd rfl (feq q).1 r
theorem if_eq (P : Pos Z y bytes maxL ret n0 p l e R s m args below meth c T h cells slots) {x : Int32} {o : Int} (hd : decode bytes pc = .ok (.ifCond .eq o, 3)) (ho : 0 ≤ (pc : Int) + o) (hY : ((pc : Int) + o).toNat = pcY) (hN : pc + 3 = pcN) (kY : x = 0 → Goes p e below s n0 kc ks Q (T.setTop (mkF m pcY L S))) (kN : ¬ x = 0 → Goes p e below s n0 kc ks Q (T.setTop (mkF m pcN L S))) : Goes p e below s n0 kc ks Q (T.setTop (mkF m pc L (.int x :: S))) := by
  obtain ⟨⟨hx, rfl, rfl, hown, hnm, rfl, hlk, hZ, hn0⟩, locs, X, rfl, N⟩ := P
  by_cases q : x = 0
  · exact (kY q).via fun t r => XS.ifYes X.here hx rfl (pc0 := pc) (pc' := pcY) rfl hd rfl ((if0 _ _).trans (teq q).1) ho hY r
  · subst hN
    exact (kN q).via fun t r => XS.ifNo X.here hx rfl hd rfl ((if0 _ _).trans (feq q).1) r
theorem icmp_ne (P : Pos Z y bytes maxL ret n0 p l e R s m args below meth c T h cells slots) {x z : Int32} {o : Int} (hd : decode bytes pc = .ok (.if_icmp .ne o, 3)) (ho : 0 ≤ (pc : Int) + o) (hY : ((pc : Int) + o).toNat = pcY) (hN : pc + 3 = pcN) (kY : ¬ x = z → Goes p e below s n0 kc ks Q (T.setTop (mkF m pcY L S))) (kN : x = z → Goes p e below s n0 kc ks Q (T.setTop (mkF m pcN L S))) : Goes p e below s n0 kc ks Q (T.setTop (mkF m pc L (.int z :: .int x :: S))) := by
  obtain ⟨⟨hx, rfl, rfl, hown, hnm, rfl, hlk, hZ, hn0⟩, locs, X, rfl, N⟩ := P
  by_cases q : x = z
  · subst hN
    exact (kN q).via fun t r => XS.icmpNo X.here hx rfl hd rfl (teq q).2 r
  · exact (kY q).via fun t r => XS.icmpYes X.here hx rfl (pc0 := pc) (pc' := pcY) rfl hd rfl (feq q).2 ho hY r
theorem if_ne (P : Pos Z y bytes maxL ret n0 p l e R s m args below meth c T h cells slots) {x : Int32} {o : Int} (hd : decode bytes pc = .ok (.ifCond .ne o, 3)) (ho : 0 ≤ (pc : Int) + o) (hY : ((pc : Int) + o).toNat = pcY) (hN : pc + 3 = pcN) (kY : ¬ x = 0 → Goes p e below s n0 kc ks Q (T.setTop (mkF m pcY L S))) (kN : x = 0 → Goes p e below s n0 kc ks Q (T.setTop (mkF m pcN L S))) : Goes p e below s n0 kc ks Q (T.setTop (mkF m pc L (.int x :: S))) := by
  obtain ⟨⟨hx, rfl, rfl, hown, hnm, rfl, hlk, hZ, hn0⟩, locs, X, rfl, N⟩ := P
  by_cases q : x = 0
  · subst hN
    exact (kN q).via fun t r => XS.ifNo X.here hx rfl hd rfl ((if0 _ _).trans (teq q).2) r
  · exact (kY q).via fun t r => XS.ifYes X.here hx rfl (pc0 := pc) (pc' := pcY) rfl hd rfl ((if0 _ _).trans (feq q).2) ho hY r
theorem lif_lt (P : Pos Z y bytes maxL ret n0 p l e R s m args below meth c T h cells slots) {x z : Int64} {o : Int} (hd : decode bytes pc = .ok (.ifCond .lt o, 3)) (ho : 0 ≤ (pc : Int) + o) (hY : ((pc : Int) + o).toNat = pcY) (hN : pc + 3 = pcN) (kY : x < z → Goes p e below s n0 kc ks Q (T.setTop (mkF m pcY L S))) (kN : ¬ x < z → Goes p e below s n0 kc ks Q (T.setTop (mkF m pcN L S))) : Goes p e below s n0 kc ks Q (T.setTop (mkF m pc L (.int (lcmpW x z) :: S))) :=
  if_lt P hd ho hY hN (fun q => kY ((lw_lt x z).mp q)) (fun q => kN (mt (lw_lt x z).mpr q))
theorem lif_ge (P : Pos Z y bytes maxL ret n0 p l e R s m args below meth c T h cells slots) {x z : Int64} {o : Int} (hd : decode bytes pc = .ok (.ifCond .ge o, 3)) (ho : 0 ≤ (pc : Int) + o) (hY : ((pc : Int) + o).toNat = pcY) (hN : pc + 3 = pcN) (kY : ¬ x < z → Goes p e below s n0 kc ks Q (T.setTop (mkF m pcY L S))) (kN : x < z → Goes p e below s n0 kc ks Q (T.setTop (mkF m pcN L S))) : Goes p e below s n0 kc ks Q (T.setTop (mkF m pc L (.int (lcmpW x z) :: S))) :=
  if_ge P hd ho hY hN (fun q => kY (mt (lw_lt x z).mpr q)) (fun q => kN ((lw_lt x z).mp q))
theorem lif_gt (P : Pos Z y bytes maxL ret n0 p l e R s m args below meth c T h cells slots) {x z : Int64} {o : Int} (hd : decode bytes pc = .ok (.ifCond .gt o, 3)) (ho : 0 ≤ (pc : Int) + o) (hY : ((pc : Int) + o).toNat = pcY) (hN : pc + 3 = pcN) (kY : z < x → Goes p e below s n0 kc ks Q (T.setTop (mkF m pcY L S))) (kN : ¬ z < x → Goes p e below s n0 kc ks Q (T.setTop (mkF m pcN L S))) : Goes p e below s n0 kc ks Q (T.setTop (mkF m pc L (.int (lcmpW x z) :: S))) :=
  if_gt P hd ho hY hN (fun q => kY ((lw_gt x z).mp q)) (fun q => kN (mt (lw_gt x z).mpr q))
theorem lif_le (P : Pos Z y bytes maxL ret n0 p l e R s m args below meth c T h cells slots) {x z : Int64} {o : Int} (hd : decode bytes pc = .ok (.ifCond .le o, 3)) (ho : 0 ≤ (pc : Int) + o) (hY : ((pc : Int) + o).toNat = pcY) (hN : pc + 3 = pcN) (kY : ¬ z < x → Goes p e below s n0 kc ks Q (T.setTop (mkF m pcY L S))) (kN : z < x → Goes p e below s n0 kc ks Q (T.setTop (mkF m pcN L S))) : Goes p e below s n0 kc ks Q (T.setTop (mkF m pc L (.int (lcmpW x z) :: S))) :=
  if_le P hd ho hY hN (fun q => kY (mt (lw_gt x z).mpr q)) (fun q => kN ((lw_gt x z).mp q))
theorem lif_eq (P : Pos Z y bytes maxL ret n0 p l e R s m args below meth c T h cells slots) {x z : Int64} {o : Int} (hd : decode bytes pc = .ok (.ifCond .eq o, 3)) (ho : 0 ≤ (pc : Int) + o) (hY : ((pc : Int) + o).toNat = pcY) (hN : pc + 3 = pcN) (kY : x = z → Goes p e below s n0 kc ks Q (T.setTop (mkF m pcY L S))) (kN : ¬ x = z → Goes p e below s n0 kc ks Q (T.setTop (mkF m pcN L S))) : Goes p e below s n0 kc ks Q (T.setTop (mkF m pc L (.int (lcmpW x z) :: S))) :=
  if_eq P hd ho hY hN (fun q => kY ((lw_eq x z).mp q)) (fun q => kN (mt (lw_eq x z).mpr q))
theorem lif_ne (P : Pos Z y bytes maxL ret n0 p l e R s m args below meth c T h cells slots) {x z : Int64} {o : Int} (hd : decode bytes pc = .ok (.ifCond .ne o, 3)) (ho : 0 ≤ (pc : Int) + o) (hY : ((pc : Int) + o).toNat = pcY) (hN : pc + 3 = pcN) (kY : ¬ x = z → Goes p e below s n0 kc ks Q (T.setTop (mkF m pcY L S))) (kN : x = z → Goes p e below s n0 kc ks Q (T.setTop (mkF m pcN L S))) : Goes p e below s n0 kc ks Q (T.setTop (mkF m pc L (.int (lcmpW x z) :: S))) :=
  if_ne P hd ho hY hN (fun q => kY (mt (lw_eq x z).mpr q)) (fun q => kN ((lw_eq x z).mp q))
theorem ldcI (P : Pos Z y bytes maxL ret n0 p l e R s m args below meth c T h cells slots) {i : Nat} {v : Int32} (w : (Jvm.Cond.constant y.cls i v).before a0 Z = true) (hd : decode bytes pc = .ok (.ldc i, 2)) (hp : pc + 2 = pc') (k : Goes p e below s n0 kc ks Q (T.setTop (mkF m pc' L (.int v :: S)))) : Goes p e below s n0 kc ks Q (T.setTop (mkF m pc L S)) := by
  obtain ⟨⟨hx, rfl, rfl, hown, hnm, rfl, hlk, hZ, hn0⟩, locs, X, rfl, N⟩ := P
  subst hp
  exact k.via fun t q => X.ldcInt hx hown (mvT hZ w) (g := mkF m pc L S) rfl hd _ q
theorem ldc2 (P : Pos Z y bytes maxL ret n0 p l e R s m args below meth c T h cells slots) {i : Nat} {v : Int64} (w : (Jvm.Cond.constantLong y.cls i v).before a0 Z = true) (hd : decode bytes pc = .ok (.ldc2_w i, 3)) (hp : pc + 3 = pc') (k : Goes p e below s n0 kc ks Q (T.setTop (mkF m pc' L (.long v :: S)))) : Goes p e below s n0 kc ks Q (T.setTop (mkF m pc L S)) := by
  obtain ⟨⟨hx, rfl, rfl, hown, hnm, rfl, hlk, hZ, hn0⟩, locs, X, rfl, N⟩ := P
  subst hp
  exact k.via fun t q => X.ldc2Long hx hown (mvT hZ w) (g := mkF m pc L S) rfl hd _ q
theorem ireturn (P : Pos Z y bytes maxL ret n0 p l e R s m args below meth c T h cells slots) {z : Int32} (hr' : ret = some .int) (hd : decode bytes pc = .ok (.ireturn, 1)) (hk1 : cells ≤ kc) (hk2 : slots ≤ ks) (hQ : Q (some (.int z)) h) : Goes p e below s n0 kc ks Q (T.setTop (mkF m pc L (.int z :: S))) := by
  obtain ⟨⟨hx, rfl, rfl, hown, hnm, rfl, hlk, hZ, hn0⟩, locs, X, rfl, N⟩ := P
  obtain ⟨fs, hr, hrun, hended, hW, hsame⟩ := X.leave (v := some (.int z)) (fun h => by rw [hr'] at h; cases h) (hlocks := hlk)
  exact ⟨_, _, retOut X hx hr' rfl (Or.inl ⟨rfl, Or.inl rfl, _, rfl⟩) hd hr, hrun, hended, _, _, rfl, ⟨hQ, N⟩, ⟨_, rfl⟩, hW, hsame.mono hk1 hk2⟩
theorem ireturnN (P : Pos Z y bytes maxL ret n0 p l e R s m args below meth c T h cells slots) {z z' : Int32} {t : FieldType} (hr' : ret = some t) (ht : t = .boolean ∨ t = .byte ∨ t = .char ∨ t = .short) (hz : nar t z = z') (hd : decode bytes pc = .ok (.ireturn, 1)) (hk1 : cells ≤ kc) (hk2 : slots ≤ ks) (hQ : Q (some (.int z')) h) : Goes p e below s n0 kc ks Q (T.setTop (mkF m pc L (.int z :: S))) := by
  obtain ⟨⟨hx, rfl, rfl, hown, hnm, rfl, hlk, hZ, hn0⟩, locs, X, rfl, N⟩ := P
  subst hz
  obtain ⟨fs, hr, hrun, hended, hW, hsame⟩ := X.leave (v := some (.int (nar t z))) (fun h => by rw [hr'] at h; cases h) (hlocks := hlk)
  exact ⟨_, _, retN X hx hr' ht hd hr, hrun, hended, _, _, rfl, ⟨hQ, N⟩, ⟨_, rfl⟩, hW, hsame.mono hk1 hk2⟩
theorem lreturn (P : Pos Z y bytes maxL ret n0 p l e R s m args below meth c T h cells slots) {z : Int64} (hr' : ret = some .long) (hd : decode bytes pc = .ok (.lreturn, 1)) (hk1 : cells ≤ kc) (hk2 : slots ≤ ks) (hQ : Q (some (.long z)) h) : Goes p e below s n0 kc ks Q (T.setTop (mkF m pc L (.long z :: S))) := by
  obtain ⟨⟨hx, rfl, rfl, hown, hnm, rfl, hlk, hZ, hn0⟩, locs, X, rfl, N⟩ := P
  obtain ⟨fs, hr, hrun, hended, hW, hsame⟩ := X.leave (v := some (.long z)) (fun h => by rw [hr'] at h; cases h) (hlocks := hlk)
  exact ⟨_, _, retOut X hx hr' rfl (Or.inr (Or.inl ⟨rfl, rfl, _, rfl⟩)) hd hr, hrun, hended, _, _, rfl, ⟨hQ, N⟩, ⟨_, rfl⟩, hW, hsame.mono hk1 hk2⟩
theorem areturn (P : Pos Z y bytes maxL ret n0 p l e R s m args below meth c T h cells slots) {v : Value} {t : FieldType} (hr' : ret = some t) (ht : t.isReference = true) (hv : v.isRef = true) (hn : narrow t v = v) (hd : decode bytes pc = .ok (.areturn, 1)) (hk1 : cells ≤ kc) (hk2 : slots ≤ ks) (hQ : Q (some v) h) : Goes p e below s n0 kc ks Q (T.setTop (mkF m pc L (v :: S))) := by
  obtain ⟨⟨hx, rfl, rfl, hown, hnm, rfl, hlk, hZ, hn0⟩, locs, X, rfl, N⟩ := P
  obtain ⟨fs, hr, hrun, hended, hW, hsame⟩ := X.leave (v := some v) (fun h => by rw [hr'] at h; cases h) (hlocks := hlk)
  exact ⟨_, _, retOut X hx hr' hn (Or.inr (Or.inr (Or.inr (Or.inr ⟨rfl, ht, hv⟩)))) hd hr, hrun, hended, _, _, rfl, ⟨hQ, N⟩, ⟨_, rfl⟩, hW, hsame.mono hk1 hk2⟩
theorem return_ (P : Pos Z y bytes maxL ret n0 p l e R s m args below meth c T h cells slots) (hr' : ret = none) (hd : decode bytes pc = .ok (.return_, 1)) (hk1 : cells ≤ kc) (hk2 : slots ≤ ks) (hQ : Q none h) : Goes p e below s n0 kc ks Q (T.setTop (mkF m pc L [])) := by
  obtain ⟨⟨hx, rfl, rfl, hown, hnm, rfl, hlk, hZ, hn0⟩, locs, X, rfl, N⟩ := P
  obtain ⟨fs, hr, hrun, hended, hW, hsame⟩ := X.leave (v := none) (fun _ => rfl) (hlocks := hlk)
  exact ⟨_, _, X.returnOut hx hr' hd hr, hrun, hended, _, _, rfl, ⟨hQ, N⟩, ⟨_, rfl⟩, hW, hsame.mono hk1 hk2⟩
theorem getF (P : Pos Z y bytes maxL ret n0 p l e R s m args below meth c T h cells slots) {R0 O n d host : String} {i : Nat} {a : Addr} {v : Value} (w : (Jvm.Cond.fieldLink y.cls i R0 n d).before a0 Z = true ∨ (Jvm.Cond.fieldLinkNest y.cls i R0 n d host).before a0 Z = true) (via : Via Z R0 O n d) (F : Fld Z h a O n d v) (hd : decode bytes pc = .ok (.getfield i, 3)) (hp : pc + 3 = pc') (k : ∀ T', Pos Z y bytes maxL ret n0 p l e R s m args below meth c T' h cells slots → Goes p e below s n0 kc ks Q (T'.setTop (mkF m pc' L (v :: S)))) : Goes p e below s n0 kc ks Q (T.setTop (mkF m pc L (.ref a :: S))) := by
  obtain ⟨⟨hx, rfl, rfl, hown, hnm, rfl, hlk, hZ, hn0⟩, locs, X, rfl, N⟩ := P
  subst hp
  obtain ⟨T', X', e', st⟩ := Jvm.RoadKit.getF X hx hZ hown w via rfl F (g := mkF m pc L (.ref a :: S)) rfl rfl hd
  exact (k T' ⟨⟨hx, rfl, rfl, hown, hnm, rfl, hlk, hZ, hn0⟩, locs, X', e', N⟩).via st
theorem putF (P : Pos Z y bytes maxL ret n0 p l e R s m args below meth c T h cells slots) {R0 O n d host C : String} {i kk : Nat} {ty : FieldType} {a : Addr} {v old : Value} (w : (Jvm.Cond.fieldLink y.cls i R0 n d).before a0 Z = true ∨ (Jvm.Cond.fieldLinkNest y.cls i R0 n d host).before a0 Z = true) (via : Via Z R0 O n d) (F : Fld Z h a O n d old) (E : Exa Z h a C) (W : (Jvm.Cond.lays C O n d).before a0 Z = true ∨ ((Jvm.Cond.laysFinal C O n d).before a0 Z = true ∧ y.cls = O ∧ y.name = "<init>")) (wi : (Jvm.Cond.instantiable C kk).before a0 Z = true) (hty : parseFieldDescriptor d = some ty) (hn : narrow ty v = v) (hf : fits ty v = true) (hg : n0 ≤ a) (hd : decode bytes pc = .ok (.putfield i, 3)) (hp : pc + 3 = pc') (k : ∀ T' h', Pos Z y bytes maxL ret n0 p l e R s m args below meth c T' h' cells slots → Wr h h' a (RoadKit.slotOf Z O n d) v → Goes p e below s n0 kc ks Q (T'.setTop (mkF m pc' L S))) : Goes p e below s n0 kc ks Q (T.setTop (mkF m pc L (v :: .ref a :: S))) := by
  obtain ⟨⟨hx, rfl, rfl, hown, hnm, rfl, hlk, hZ, hn0⟩, locs, X, rfl, N⟩ := P
  subst hp
  obtain ⟨T', h', X', e', W', st⟩ := Jvm.RoadKit.putF X hx hZ hown w via rfl F E (W.imp id fun q => ⟨q.1, q.2.1, hnm.trans q.2.2⟩) wi hty hn hf (g := mkF m pc L (v :: .ref a :: S)) rfl rfl hd
  exact (k T' h' ⟨⟨hx, rfl, rfl, hown, hnm, rfl, hlk, hZ, hn0⟩, _, X', e', Fr.snoc X' N hg⟩ W').via st
theorem new (P : Pos Z y bytes maxL ret n0 p l e R s m args below meth c T h cells slots) {C : String} {i n : Nat} {cells' slots' : Nat} (w : (Jvm.Cond.classLink y.cls i C).before a0 Z = true) (wi : (Jvm.Cond.instantiable C n).before a0 Z = true) (wz : (Jvm.Cond.initialized C).before a0 Z = true) (hd : decode bytes pc = .ok (.new i, 3)) (hc : cells + 1 = cells') (hs : slots + n = slots') (hc' : cells' ≤ R.cells) (hs' : slots' ≤ R.slots) (hp : pc + 3 = pc') (k : ∀ T' h' b, b = h.size → n0 ≤ b → Pos Z y bytes maxL ret n0 p l e R s m args below meth c T' h' cells' slots' → Ext h h' → Exa Z h' b C → (∀ {O nm d : String} {ty : FieldType}, Laid Z a0 C O nm d → parseFieldDescriptor d = some ty → Fld Z h' b O nm d (defaultValue ty)) → Goes p e below s n0 kc ks Q (T'.setTop (mkF m pc' L (.ref b :: S)))) : Goes p e below s n0 kc ks Q (T.setTop (mkF m pc L S)) := by
  obtain ⟨⟨hx, rfl, rfl, hown, hnm, rfl, hlk, hZ, hn0⟩, locs, X, rfl, N⟩ := P
  subst hp hc hs
  obtain ⟨T', h', X', e', E', A', D', -, st⟩ := newO X hx hZ hown w wi wz rfl (g := mkF m pc L S) rfl hd hc' hs'
  exact (k T' h' _ rfl (Nat.le_trans hn0 X.same.2.1) ⟨⟨hx, rfl, rfl, hown, hnm, rfl, hlk, hZ, hn0⟩, _, X', e', N⟩ E' A' D').via st
theorem initO (P : Pos Z y bytes maxL ret n0 p l e R s m args below meth c T h cells slots) {i W : Nat} {a : Addr} (w1 : (Jvm.Cond.methodLink y.cls i Lib.objectInit).before a0 Z = true) (w2 : (Jvm.Cond.instanceMethod Lib.objectInit).before a0 Z = true) (w3 : (Jvm.Cond.code Lib.objectInit ⟨#[0xb1]⟩ 1 none).before a0 Z = true) (hsz : L.size = maxL) (hd : decode bytes pc = .ok (.invokespecial i, 3)) (hf : 1 ≤ R.frames) (hW : (S.map fun v => v.category).sum ≤ W) (hl : W + 12 ≤ R.locals) (hp : pc + 3 = pc') (k : ∀ T', Pos Z y bytes maxL ret n0 p l e R s m args below meth c T' h cells slots → Goes p e below s n0 kc ks Q (T'.setTop (mkF m pc' L S))) : Goes p e below s n0 kc ks Q (T.setTop (mkF m pc L (.ref a :: S))) := by
  obtain ⟨⟨hx, rfl, rfl, hown, hnm, rfl, hlk, hZ, hn0⟩, locs, X, rfl, N⟩ := P
  subst hp
  obtain ⟨T', X', e', st⟩ := Jvm.RoadKit.initO X hx hZ hown w1 w2 w3 rfl (g := mkF m pc L (.ref a :: S)) rfl hsz rfl hd hf (W := W) (by have q0 := hW; show 2 * 0 + _ ≤ _; omega) hl
  exact (k T' ⟨⟨hx, rfl, rfl, hown, hnm, rfl, hlk, hZ, hn0⟩, locs, X', e', N⟩).via st
theorem callS (P : Pos Z y bytes maxL ret n0 p l e R s m args below meth c T h cells slots) {y' : MethodName} {bytes' : ByteArray} {maxL' : Nat} {ret' : Option FieldType} {rm : Room} {i W cells' slots' : Nat} {argsL rest : List Value} {Q' : Option Value → Heap → Prop} (w1 : (Jvm.Cond.methodLink y.cls i y').before a0 Z = true) (w2 : (Jvm.Cond.static y').before a0 Z = true) (w3 : (Jvm.Cond.initialized y'.cls).before a0 Z = true) (w4 : (Jvm.Cond.code y' bytes' maxL' ret').before a0 Z = true) (hy : y'.cls ≠ "java/lang/invoke/MethodHandle" ∧ y'.cls ≠ "java/lang/invoke/VarHandle") (K : Con l Z y' bytes' maxL' ret' rm n0 argsL.toArray h Q') (hf : rm.frames + 1 ≤ R.frames) (hl : W + (maxL' + 11) + rm.locals ≤ R.locals) (hc : cells + rm.cells = cells') (hs : slots + rm.slots = slots') (hc' : cells' ≤ R.cells) (hs' : slots' ≤ R.slots) (hlen : ∀ sig, parseMethodDescriptor y'.desc = some sig → argsL.length = sig.parameters.length) (hsz : L.size = maxL) (hst : S = argsL.reverse ++ rest) (hW : (rest.map fun v => v.category).sum ≤ W) (hd : decode bytes pc = .ok (.invokestatic i, 3)) (hp : pc + 3 = pc') (k : ∀ T' h' v, Pos Z y bytes maxL ret n0 p l e R s m args below meth c T' h' cells' slots' → Q' v h' → Goes p e below s n0 kc ks Q (T'.setTop (mkF m pc' L (v.toList ++ rest)))) : Goes p e below s n0 kc ks Q (T.setTop (mkF m pc L S)) := by
  obtain ⟨⟨hx, rfl, rfl, hown, hnm, rfl, hlk, hZ, hn0⟩, locs, X, rfl, N⟩ := P
  subst hp hc hs hst
  obtain ⟨v, _, ⟨T', L1, k1, n1⟩, -, X', ⟨Lc, ⟨hQ, hN⟩, l1, y1, z1⟩, st⟩ := Jvm.LawKit.callS X hx hown (mvT hZ w1) (mvT hZ w2) (mvT hZ w3) (mvT hZ w4) hy (backOf (W := W) (Q := fun v h L => Q' v h ∧ Fr n0 L) (K []) hZ w4 w3 hf hl) (g := mkF m pc L (argsL.reverse ++ rest)) rfl hsz (argsL := argsL) (rest := rest) hlen rfl (by have q0 := hW; show 2 * 0 + _ ≤ _; omega) hd (fun _ _ => ⟨rfl, rfl, hc', hs'⟩)
  dsimp only [Pt.U, Pt.locs, Pt.cells, Pt.slots] at X' l1 y1 z1 st hQ
  subst l1 y1 z1
  exact (k T' _ v ⟨⟨hx, rfl, rfl, hown, hnm, rfl, hlk, hZ, hn0⟩, _, X', rfl, Fr.app N hN⟩ hQ).via st
theorem callI (P : Pos Z y bytes maxL ret n0 p l e R s m args below meth c T h cells slots) {y' : MethodName} {bytes' : ByteArray} {maxL' : Nat} {rm : Room} {i W cells' slots' : Nat} {argsL rest : List Value} {Q' : Option Value → Heap → Prop} {a : Addr} (hy1 : y'.name = "<init>") (w1 : (Jvm.Cond.methodLink y.cls i y').before a0 Z = true) (w2 : (Jvm.Cond.instanceMethod y').before a0 Z = true) (w3 : (Jvm.Cond.initialized y'.cls).before a0 Z = true) (w4 : (Jvm.Cond.code y' bytes' maxL' none).before a0 Z = true) (hy : y'.cls ≠ "java/lang/invoke/MethodHandle" ∧ y'.cls ≠ "java/lang/invoke/VarHandle") (K : Con l Z y' bytes' maxL' none rm n0 (.ref a :: argsL).toArray h Q') (hf : rm.frames + 1 ≤ R.frames) (hl : W + (maxL' + 11) + rm.locals ≤ R.locals) (hc : cells + rm.cells = cells') (hs : slots + rm.slots = slots') (hc' : cells' ≤ R.cells) (hs' : slots' ≤ R.slots) (hlen : ∀ sig, parseMethodDescriptor y'.desc = some sig → argsL.length = sig.parameters.length) (hsz : L.size = maxL) (hst : S = argsL.reverse ++ .ref a :: rest) (hW : (rest.map fun v => v.category).sum ≤ W) (hd : decode bytes pc = .ok (.invokespecial i, 3)) (hp : pc + 3 = pc') (k : ∀ T' h' v, Pos Z y bytes maxL ret n0 p l e R s m args below meth c T' h' cells' slots' → Q' v h' → Goes p e below s n0 kc ks Q (T'.setTop (mkF m pc' L (v.toList ++ rest)))) : Goes p e below s n0 kc ks Q (T.setTop (mkF m pc L S)) := by
  obtain ⟨⟨hx, rfl, rfl, hown, hnm, rfl, hlk, hZ, hn0⟩, locs, X, rfl, N⟩ := P
  subst hp hc hs hst
  obtain ⟨v, _, ⟨T', L1, k1, n1⟩, -, X', ⟨Lc, ⟨hQ, hN⟩, l1, y1, z1⟩, st⟩ := X.specialBack hx hy1 hown (mvT hZ w1) (mvT hZ w2) (mvT hZ w4) hy (backOf (W := W) (Q := fun v h L => Q' v h ∧ Fr n0 L) (K []) hZ w4 w3 hf hl) (g := mkF m pc L (argsL.reverse ++ .ref a :: rest)) rfl hsz (Steps.refl _) (a := a) (argsL := argsL) (rest := rest) hlen rfl (by have q0 := hW; show 2 * 0 + _ ≤ _; omega) hd (fun _ _ => ⟨rfl, rfl, hc', hs'⟩)
  dsimp only [Pt.U, Pt.locs, Pt.cells, Pt.slots] at X' l1 y1 z1 st hQ
  subst l1 y1 z1
  exact (k T' _ v ⟨⟨hx, rfl, rfl, hown, hnm, rfl, hlk, hZ, hn0⟩, _, X', rfl, Fr.app N hN⟩ hQ).via fun _ q => st.trans q
theorem callV (P : Pos Z y bytes maxL ret n0 p l e R s m args below meth c T h cells slots) {y' : MethodName} {bytes' : ByteArray} {maxL' : Nat} {ret' : Option FieldType} {rm : Room} {i W cells' slots' : Nat} {argsL rest : List Value} {Q' : Option Value → Heap → Prop} {a : Addr} {C : String} (w1 : (Jvm.Cond.methodLink y.cls i y').before a0 Z = true) (w2 : (Jvm.Cond.declares y').before a0 Z = true) (w5 : (Jvm.Cond.selects C y' y').before a0 Z = true) (w6 : (Jvm.Cond.instanceMethod y').before a0 Z = true) (w3 : (Jvm.Cond.initialized y'.cls).before a0 Z = true) (w4 : (Jvm.Cond.code y' bytes' maxL' ret').before a0 Z = true) (hy : y'.cls ≠ "java/lang/invoke/MethodHandle" ∧ y'.cls ≠ "java/lang/invoke/VarHandle") (E : Exa Z h a C) (K : Con l Z y' bytes' maxL' ret' rm n0 (.ref a :: argsL).toArray h Q') (hf : rm.frames + 1 ≤ R.frames) (hl : W + (maxL' + 11) + rm.locals ≤ R.locals) (hc : cells + rm.cells = cells') (hs : slots + rm.slots = slots') (hc' : cells' ≤ R.cells) (hs' : slots' ≤ R.slots) (hlen : ∀ sig, parseMethodDescriptor y'.desc = some sig → argsL.length = sig.parameters.length) (hsz : L.size = maxL) (hst : S = argsL.reverse ++ .ref a :: rest) (hW : (rest.map fun v => v.category).sum ≤ W) (hd : decode bytes pc = .ok (.invokevirtual i, 3)) (hp : pc + 3 = pc') (k : ∀ T' h' v, Pos Z y bytes maxL ret n0 p l e R s m args below meth c T' h' cells' slots' → Q' v h' → Goes p e below s n0 kc ks Q (T'.setTop (mkF m pc' L (v.toList ++ rest)))) : Goes p e below s n0 kc ks Q (T.setTop (mkF m pc L S)) := by
  obtain ⟨⟨hx, rfl, rfl, hown, hnm, rfl, hlk, hZ, hn0⟩, locs, X, rfl, N⟩ := P
  obtain ⟨cq, kq, qa, qb, qc⟩ := isOf (T := T) hZ rfl E
  subst hp hc hs hst
  obtain ⟨v, _, ⟨T', L1, k1, n1⟩, -, X', ⟨Lc, ⟨hQ, hN⟩, l1, y1, z1⟩, st⟩ := X.virtualBack hx (y := y') (z := y') hown (mvT hZ w1) (mvT hZ w2) (notFace_of_selects (args := #[]) (mvT hZ w5)) (mvT hZ w5) (mvT hZ w6) hy (backOf (W := W) (Q := fun v h L => Q' v h ∧ Fr n0 L) (K []) hZ w4 w3 hf hl) qa qc (g := mkF m pc L (argsL.reverse ++ .ref a :: rest)) rfl hsz (Steps.refl _) (argsL := argsL) (rest := rest) hlen rfl (by have q0 := hW; show 2 * 0 + _ ≤ _; omega) hd (fun _ _ => ⟨rfl, rfl, hc', hs'⟩)
  dsimp only [Pt.U, Pt.locs, Pt.cells, Pt.slots] at X' l1 y1 z1 st hQ
  subst l1 y1 z1
  exact (k T' _ v ⟨⟨hx, rfl, rfl, hown, hnm, rfl, hlk, hZ, hn0⟩, _, X', rfl, Fr.app N hN⟩ hQ).via fun _ q => st.trans q
theorem callP (P : Pos Z y bytes maxL ret n0 p l e R s m args below meth c T h cells slots) {y' : MethodName} {bytes' : ByteArray} {maxL' : Nat} {ret' : Option FieldType} {rm : Room} {i W cells' slots' : Nat} {argsL rest : List Value} {Q' : Option Value → Heap → Prop} {a : Addr} {C : String} (w1 : (Jvm.Cond.methodLink y.cls i y').before a0 Z = true) {kk : Nat} (wi : (Jvm.Cond.instantiable y'.cls kk).before a0 Z = true) (w6 : (Jvm.Cond.instanceMethod y').before a0 Z = true) (w7 : (Jvm.Cond.privateMethod y').before a0 Z = true) (w3 : (Jvm.Cond.initialized y'.cls).before a0 Z = true) (w4 : (Jvm.Cond.code y' bytes' maxL' ret').before a0 Z = true) (hy : y'.cls ≠ "java/lang/invoke/MethodHandle" ∧ y'.cls ≠ "java/lang/invoke/VarHandle") (E : Exa Z h a C) (K : Con l Z y' bytes' maxL' ret' rm n0 (.ref a :: argsL).toArray h Q') (hf : rm.frames + 1 ≤ R.frames) (hl : W + (maxL' + 11) + rm.locals ≤ R.locals) (hc : cells + rm.cells = cells') (hs : slots + rm.slots = slots') (hc' : cells' ≤ R.cells) (hs' : slots' ≤ R.slots) (hlen : ∀ sig, parseMethodDescriptor y'.desc = some sig → argsL.length = sig.parameters.length) (hsz : L.size = maxL) (hst : S = argsL.reverse ++ .ref a :: rest) (hW : (rest.map fun v => v.category).sum ≤ W) (hd : decode bytes pc = .ok (.invokevirtual i, 3)) (hp : pc + 3 = pc') (k : ∀ T' h' v, Pos Z y bytes maxL ret n0 p l e R s m args below meth c T' h' cells' slots' → Q' v h' → Goes p e below s n0 kc ks Q (T'.setTop (mkF m pc' L (v.toList ++ rest)))) : Goes p e below s n0 kc ks Q (T.setTop (mkF m pc L S)) := by
  obtain ⟨⟨hx, rfl, rfl, hown, hnm, rfl, hlk, hZ, hn0⟩, locs, X, rfl, N⟩ := P
  obtain ⟨cq, q1, q2⟩ := E.cell
  obtain ⟨ci, ki, j1, j2, -, j3, -⟩ := Cond.instantiable_spec wi
  have w5 : (Jvm.Cond.selects y'.cls y' y').before a0 Z = true := selects_self_of_private j1 j2 (by simp only [Bool.or_eq_false_iff] at j3; exact j3.1) (Cond.privateMethod_at w7) w6 hy
  subst hp hc hs hst
  obtain ⟨v, _, ⟨T', L1, k1, n1⟩, -, X', ⟨Lc, ⟨hQ, hN⟩, l1, y1, z1⟩, st⟩ := X.privateBack hx (y := y') hown (mvT hZ w1) (mvT hZ w6) (mvT hZ w5) (Cond.privateMethod_at (mvP hZ w7 (args := #[]))) (mvT hZ w4) hy (backOf (W := W) (Q := fun v h L => Q' v h ∧ Fr n0 L) (K []) hZ w4 w3 hf hl) (g := mkF m pc L (argsL.reverse ++ .ref a :: rest)) rfl hsz (Steps.refl _) (a := a) q1 q2 (argsL := argsL) (rest := rest) hlen rfl (by have q0 := hW; show 2 * 0 + _ ≤ _; omega) hd (fun _ _ => ⟨rfl, rfl, hc', hs'⟩)
  dsimp only [Pt.U, Pt.locs, Pt.cells, Pt.slots] at X' l1 y1 z1 st hQ
  subst l1 y1 z1
  exact (k T' _ v ⟨⟨hx, rfl, rfl, hown, hnm, rfl, hlk, hZ, hn0⟩, _, X', rfl, Fr.app N hN⟩ hQ).via fun _ q => st.trans q
end Plain
end G
/-- an array at a: n places, the i-th holds the int f i -/
def Ints (Z : State) (h : Heap) (a : Addr) (ty : FieldType) (n : Nat) (f : Nat → Int32) : Prop := n < 2 ^ 31 ∧ ∃ c : Cell, Arr Z h a c ty ∧ c.slots.size = n ∧ ∀ i, i < n → c.slots[i]? = some (.int (f i))
def oupd (f : Nat → Int32) (i : Nat) (x : Int32) : Nat → Int32 := fun k => if k = i then x else f k
def lst (l : List Int32) : Nat → Int32 := fun i => l.getD i 0
section Arrays
variable {Z : State} {h h' : Heap} {a b : Addr} {ty : FieldType} {n : Nat} {f : Nat → Int32} {sl : Nat} {v : Value} {ws : List Addr}
theorem Ints.lt (A : Ints Z h a ty n f) : a < h.size := by obtain ⟨_, c, A, -⟩ := A; exact A.lt
theorem Ints.ext (A : Ints Z h a ty n f) (E : Ext h h') : Ints Z h' a ty n f := by obtain ⟨q, c, A, r⟩ := A; exact ⟨q, c, A.ext E, r⟩
theorem Ints.other (A : Ints Z h b ty n f) (W : Wr h h' a sl v) (q : b ≠ a) : Ints Z h' b ty n f := by obtain ⟨r, c, A, r'⟩ := A; exact ⟨r, c, A.other W q, r'⟩
theorem Ints.keep (A : Ints Z h a ty n f) (K : Keep h h' ws) (q : a ∉ ws) : Ints Z h' a ty n f := by obtain ⟨r, c, A, r'⟩ := A; exact ⟨r, c, ⟨K.2.1 a c A.1 q, A.2⟩, r'⟩
theorem Ints.congr {g : Nat → Int32} (A : Ints Z h a ty n f) (q : ∀ i, i < n → f i = g i) : Ints Z h a ty n g := by obtain ⟨r, c, A, s, r'⟩ := A; exact ⟨r, c, A, s, fun i hi => by rw [r' i hi, q i hi]⟩
theorem Ints.same {i : Nat} {x : Int32} (A : Ints Z h a ty n f) (W : Wr h h' a i (.int x)) : Ints Z h' a ty n (oupd f i x) := by
  obtain ⟨q, c, A, s, r⟩ := A
  refine ⟨q, _, A.same W, (sz_set _ _ _).trans s, fun j hj => ?_⟩
  show (c.slots.setIfInBounds i (.int x))[j]? = _
  by_cases e : j = i
  · subst e
    rw [Array.getElem?_setIfInBounds_self_of_lt (by omega)]
    simp [oupd]
  · rw [Array.getElem?_setIfInBounds_ne (Ne.symm e), r j hj]
    simp [oupd, e]
theorem idx {j : Int32} {i : Nat} (hj : j.toInt = (i : Int)) : ¬ j < 0 ∧ j.toNatClampNeg = i := by
  have q : ¬ j < 0 := by rw [Int32.lt_iff_toInt_lt, hj]; show ¬ ((i : Int) < 0); omega
  have r := nat_of q
  exact ⟨q, by omega⟩
theorem idx_in' {j : Int32} {i : Nat} {c : Cell} (hj : j.toInt = (i : Int)) (hi : i < c.slots.size) : ¬ (j < 0 ∨ c.slots.size ≤ j.toNatClampNeg) := by
  obtain ⟨q, r⟩ := idx hj
  rw [r]
  rintro (s | s)
  · exact q s
  · omega
end Arrays
namespace G
section Plain
variable {Z : State} {y : MethodName} {bytes : ByteArray} {maxL : Nat} {ret : Option FieldType} {n0 : Nat} {p : Program} {l : Launch} {e : Env} {R : Room} {s : State} {m : MethodId} {args : Array Value} {below : List Frame} {meth : Method} {c : Code} {T : State} {h : Heap} {cells slots kc ks : Nat} {Q : Option Value → Heap → Prop} {pc pc' pcY pcN : Nat} {L L' : Array Slot} {S : List Value} {a0 : Array Value}
theorem iaload (P : Pos Z y bytes maxL ret n0 p l e R s m args below meth c T h cells slots) {a : Addr} {n i : Nat} {f : Nat → Int32} {j : Int32} (A : Ints Z h a .int n f) (hj : j.toInt = (i : Int)) (hi : i < n) (hd : decode bytes pc = .ok (.iaload, 1)) (hp : pc + 1 = pc') (k : Goes p e below s n0 kc ks Q (T.setTop (mkF m pc' L (.int (f i) :: S)))) : Goes p e below s n0 kc ks Q (T.setTop (mkF m pc L (.int j :: .ref a :: S))) := by
  obtain ⟨⟨hx, rfl, rfl, hown, hnm, rfl, hlk, hZ, hn0⟩, locs, X, rfl, N⟩ := P
  subst hp
  obtain ⟨-, cl, Ar, sz, r⟩ := A
  exact k.via fun t q => X.iaload hx (j := j) (v := .int (f i)) Ar.1 (State.isArrayOf_alike hZ.alike Ar.2.1) Ar.2.2 (idx_in' hj (by omega)) (by rw [(idx hj).2]; exact r i hi) (g := mkF m pc L (.int j :: .ref a :: S)) rfl rfl hd _ q
theorem baload (P : Pos Z y bytes maxL ret n0 p l e R s m args below meth c T h cells slots) {a : Addr} {n i : Nat} {f : Nat → Int32} {j : Int32} (A : Ints Z h a .byte n f) (hj : j.toInt = (i : Int)) (hi : i < n) (hd : decode bytes pc = .ok (.baload, 1)) (hp : pc + 1 = pc') (k : Goes p e below s n0 kc ks Q (T.setTop (mkF m pc' L (.int (f i) :: S)))) : Goes p e below s n0 kc ks Q (T.setTop (mkF m pc L (.int j :: .ref a :: S))) := by
  obtain ⟨⟨hx, rfl, rfl, hown, hnm, rfl, hlk, hZ, hn0⟩, locs, X, rfl, N⟩ := P
  subst hp
  obtain ⟨-, cl, Ar, sz, r⟩ := A
  exact k.via fun t q => X.baloadBytes hx (j := j) (v := .int (f i)) Ar.1 (State.isArrayOf_alike hZ.alike Ar.2.1) Ar.2.2 (idx_in' hj (by omega)) (by rw [(idx hj).2]; exact r i hi) (g := mkF m pc L (.int j :: .ref a :: S)) rfl rfl hd _ q
theorem zaload (P : Pos Z y bytes maxL ret n0 p l e R s m args below meth c T h cells slots) {a : Addr} {n i : Nat} {f : Nat → Int32} {j : Int32} (A : Ints Z h a .boolean n f) (hj : j.toInt = (i : Int)) (hi : i < n) (hd : decode bytes pc = .ok (.baload, 1)) (hp : pc + 1 = pc') (k : Goes p e below s n0 kc ks Q (T.setTop (mkF m pc' L (.int (f i) :: S)))) : Goes p e below s n0 kc ks Q (T.setTop (mkF m pc L (.int j :: .ref a :: S))) := by
  obtain ⟨⟨hx, rfl, rfl, hown, hnm, rfl, hlk, hZ, hn0⟩, locs, X, rfl, N⟩ := P
  subst hp
  obtain ⟨-, cl, Ar, sz, r⟩ := A
  exact k.via fun t q => X.baloadBooleans hx (j := j) (v := .int (f i)) Ar.1 (State.isArrayOf_alike hZ.alike Ar.2.1) Ar.2.2 (idx_in' hj (by omega)) (by rw [(idx hj).2]; exact r i hi) (g := mkF m pc L (.int j :: .ref a :: S)) rfl rfl hd _ q
theorem iastore (P : Pos Z y bytes maxL ret n0 p l e R s m args below meth c T h cells slots) {a : Addr} {n i : Nat} {f : Nat → Int32} {j x : Int32} (A : Ints Z h a .int n f) (hj : j.toInt = (i : Int)) (hi : i < n) (hg : n0 ≤ a) (hd : decode bytes pc = .ok (.iastore, 1)) (hp : pc + 1 = pc') (k : ∀ T' h', Pos Z y bytes maxL ret n0 p l e R s m args below meth c T' h' cells slots → Wr h h' a i (.int (x)) → Goes p e below s n0 kc ks Q (T'.setTop (mkF m pc' L S))) : Goes p e below s n0 kc ks Q (T.setTop (mkF m pc L (.int x :: .int j :: .ref a :: S))) := by
  obtain ⟨⟨hx, rfl, rfl, hown, hnm, rfl, hlk, hZ, hn0⟩, locs, X, rfl, N⟩ := P
  subst hp
  obtain ⟨-, cl, Ar, sz, r⟩ := A
  obtain ⟨T', h', X', e', W', st⟩ := stI X hx hZ rfl Ar (j := j) (x := x) (idx_in' hj (by omega)) (g := mkF m pc L (.int x :: .int j :: .ref a :: S)) rfl rfl hd
  have hP := Fr.snoc X' N hg
  rw [(idx hj).2] at W'
  exact (k T' h' ⟨⟨hx, rfl, rfl, hown, hnm, rfl, hlk, hZ, hn0⟩, _, X', e', hP⟩ W').via st
theorem bastore (P : Pos Z y bytes maxL ret n0 p l e R s m args below meth c T h cells slots) {a : Addr} {n i : Nat} {f : Nat → Int32} {j x : Int32} (A : Ints Z h a .byte n f) (hj : j.toInt = (i : Int)) (hi : i < n) (hg : n0 ≤ a) (hd : decode bytes pc = .ok (.bastore, 1)) (hp : pc + 1 = pc') (k : ∀ T' h', Pos Z y bytes maxL ret n0 p l e R s m args below meth c T' h' cells slots → Wr h h' a i (.int (nar .byte x)) → Goes p e below s n0 kc ks Q (T'.setTop (mkF m pc' L S))) : Goes p e below s n0 kc ks Q (T.setTop (mkF m pc L (.int x :: .int j :: .ref a :: S))) := by
  obtain ⟨⟨hx, rfl, rfl, hown, hnm, rfl, hlk, hZ, hn0⟩, locs, X, rfl, N⟩ := P
  subst hp
  obtain ⟨-, cl, Ar, sz, r⟩ := A
  obtain ⟨T', h', X', e', W', st⟩ := stB X hx hZ rfl Ar (j := j) (x := x) (idx_in' hj (by omega)) (g := mkF m pc L (.int x :: .int j :: .ref a :: S)) rfl rfl hd
  have hP := Fr.snoc X' N hg
  rw [(idx hj).2] at W'
  exact (k T' h' ⟨⟨hx, rfl, rfl, hown, hnm, rfl, hlk, hZ, hn0⟩, _, X', e', hP⟩ W').via st
theorem zastore (P : Pos Z y bytes maxL ret n0 p l e R s m args below meth c T h cells slots) {a : Addr} {n i : Nat} {f : Nat → Int32} {j x : Int32} (A : Ints Z h a .boolean n f) (hj : j.toInt = (i : Int)) (hi : i < n) (hg : n0 ≤ a) (hd : decode bytes pc = .ok (.bastore, 1)) (hp : pc + 1 = pc') (k : ∀ T' h', Pos Z y bytes maxL ret n0 p l e R s m args below meth c T' h' cells slots → Wr h h' a i (.int (nar .boolean x)) → Goes p e below s n0 kc ks Q (T'.setTop (mkF m pc' L S))) : Goes p e below s n0 kc ks Q (T.setTop (mkF m pc L (.int x :: .int j :: .ref a :: S))) := by
  obtain ⟨⟨hx, rfl, rfl, hown, hnm, rfl, hlk, hZ, hn0⟩, locs, X, rfl, N⟩ := P
  subst hp
  obtain ⟨-, cl, Ar, sz, r⟩ := A
  obtain ⟨T', h', X', e', W', st⟩ := stZ X hx hZ rfl Ar (j := j) (x := x) (idx_in' hj (by omega)) (g := mkF m pc L (.int x :: .int j :: .ref a :: S)) rfl rfl hd
  have hP := Fr.snoc X' N hg
  rw [(idx hj).2] at W'
  exact (k T' h' ⟨⟨hx, rfl, rfl, hown, hnm, rfl, hlk, hZ, hn0⟩, _, X', e', hP⟩ W').via st
theorem arraylength (P : Pos Z y bytes maxL ret n0 p l e R s m args below meth c T h cells slots) {a : Addr} {n : Nat} {f : Nat → Int32} {ty : FieldType} {z : Int32} (A : Ints Z h a ty n f) (hz : z.toInt = (n : Int)) (hd : decode bytes pc = .ok (.arraylength, 1)) (hp : pc + 1 = pc') (k : Goes p e below s n0 kc ks Q (T.setTop (mkF m pc' L (.int z :: S)))) : Goes p e below s n0 kc ks Q (T.setTop (mkF m pc L (.ref a :: S))) := by
  obtain ⟨⟨hx, rfl, rfl, hown, hnm, rfl, hlk, hZ, hn0⟩, locs, X, rfl, N⟩ := P
  subst hp
  obtain ⟨hn, cl, Ar, sz, r⟩ := A
  have e' : cl.slots.size.toInt32 = z := by rw [sz, ← (idx hz).2]; exact (back32 (idx hz).1).1
  exact k.via fun t q => X.arraylength hx Ar.1 (State.isArrayOf_alike hZ.alike Ar.2.1) (g := mkF m pc L (.ref a :: S)) rfl rfl hd _ (by rw [e']; exact q)
theorem newarray (P : Pos Z y bytes maxL ret n0 p l e R s m args below meth c T h cells slots) {aty : ArrayType} {z : Int32} {N cap cells' slots' : Nat} (w : (Jvm.Cond.arrayClass (newarray.typeOf aty)).before a0 Z = true) (hdv : defaultValue (newarray.typeOf aty) = .int 0) (hz : z.toInt = (N : Int)) (hcap : N ≤ cap) (hb : cap * 8 ≤ 536870912) (hd : decode bytes pc = .ok (.newarray aty, 2)) (hc : cells + 1 = cells') (hs : slots + cap = slots') (hc' : cells' ≤ R.cells) (hs' : slots' ≤ R.slots) (hp : pc + 2 = pc') (k : ∀ T' h' b, b = h.size → n0 ≤ b → Pos Z y bytes maxL ret n0 p l e R s m args below meth c T' h' cells' slots' → Ext h h' → Ints Z h' b (newarray.typeOf aty) N (fun _ => 0) → Goes p e below s n0 kc ks Q (T'.setTop (mkF m pc' L (.ref b :: S)))) : Goes p e below s n0 kc ks Q (T.setTop (mkF m pc L (.int z :: S))) := by
  obtain ⟨⟨hx, rfl, rfl, hown, hnm, rfl, hlk, hZ, hn0⟩, locs, X, rfl, NF⟩ := P
  subst hp hc hs
  obtain ⟨q1, q2⟩ := idx hz
  obtain ⟨T', h', cA, X', e', E', A', st⟩ := newP X hx hZ w rfl (g := mkF m pc L (.int z :: S)) rfl hd rfl q1 (cap := cap) (by omega) hb hc' hs'
  have h32 := (back32 q1).2
  refine (k T' h' _ rfl (Nat.le_trans hn0 X.same.2.1) ⟨⟨hx, rfl, rfl, hown, hnm, rfl, hlk, hZ, hn0⟩, _, X', e', NF⟩ E' ⟨by omega, _, A', by rw [sz_new]; exact q2, fun i hi => ?_⟩).via st
  show (Array.replicate z.toNatClampNeg (defaultValue _))[i]? = some (.int 0)
  rw [hdv, Array.getElem?_replicate, if_pos (by omega)]
theorem top {x x' : Int32} (h : x = x') (k : Goes p e below s n0 kc ks Q (T.setTop (mkF m pc L (.int x' :: S)))) : Goes p e below s n0 kc ks Q (T.setTop (mkF m pc L (.int x :: S))) := by subst h; exact k
theorem topL {x x' : Int64} (h : x = x') (k : Goes p e below s n0 kc ks Q (T.setTop (mkF m pc L (.long x' :: S)))) : Goes p e below s n0 kc ks Q (T.setTop (mkF m pc L (.long x :: S))) := by subst h; exact k
theorem top1 {x x' : Int32} {u : Value} (h : x = x') (k : Goes p e below s n0 kc ks Q (T.setTop (mkF m pc L (u :: .int x' :: S)))) : Goes p e below s n0 kc ks Q (T.setTop (mkF m pc L (u :: .int x :: S))) := by subst h; exact k
theorem lswHit (P : Pos Z y bytes maxL ret n0 p l e R s m args below meth c T h cells slots) {x : Int32} {df a off : Int} {pairs : Array (Int × Int)} {len : Nat} (hd : decode bytes pc = .ok (.lookupswitch df pairs, len)) (hs : (pairs.toList.zip (pairs.toList.drop 1)).all (fun (a, next) => a.1 < next.1) = true) (hf : pairs.find? (·.1 == x.toInt) = some (a, off)) (ho : 0 ≤ (pc : Int) + off) (hp : ((pc : Int) + off).toNat = pc') (k : Goes p e below s n0 kc ks Q (T.setTop (mkF m pc' L S))) : Goes p e below s n0 kc ks Q (T.setTop (mkF m pc L (.int x :: S))) := by
  obtain ⟨⟨hx, rfl, rfl, hown, hnm, rfl, hlk, hZ, hn0⟩, locs, X, rfl, N⟩ := P
  subst hp
  exact k.via fun t q => X.lookupswitchHit hx (g := mkF m pc L (.int x :: S)) rfl rfl hd hs hf ho _ q
theorem lswMiss (P : Pos Z y bytes maxL ret n0 p l e R s m args below meth c T h cells slots) {x : Int32} {df : Int} {pairs : Array (Int × Int)} {len : Nat} (hd : decode bytes pc = .ok (.lookupswitch df pairs, len)) (hs : (pairs.toList.zip (pairs.toList.drop 1)).all (fun (a, next) => a.1 < next.1) = true) (hf : ∀ q ∈ pairs.toList, q.1 ≠ x.toInt) (ho : 0 ≤ (pc : Int) + df) (hp : ((pc : Int) + df).toNat = pc') (k : Goes p e below s n0 kc ks Q (T.setTop (mkF m pc' L S))) : Goes p e below s n0 kc ks Q (T.setTop (mkF m pc L (.int x :: S))) := by
  obtain ⟨⟨hx, rfl, rfl, hown, hnm, rfl, hlk, hZ, hn0⟩, locs, X, rfl, N⟩ := P
  subst hp
  exact k.via fun t q => X.lookupswitchMiss hx (g := mkF m pc L (.int x :: S)) rfl rfl hd hs (find_miss hf) ho _ q
theorem tswIn (P : Pos Z y bytes maxL ret n0 p l e R s m args below meth c T h cells slots) {x : Int32} {df lo hi off : Int} {offs : Array Int} {len : Nat} (hd : decode bytes pc = .ok (.tableswitch df lo hi offs, len)) (hin : ¬ (x.toInt < lo ∨ x.toInt > hi)) (hf : offs[(x.toInt - lo).toNat]? = some off) (ho : 0 ≤ (pc : Int) + off) (hp : ((pc : Int) + off).toNat = pc') (k : Goes p e below s n0 kc ks Q (T.setTop (mkF m pc' L S))) : Goes p e below s n0 kc ks Q (T.setTop (mkF m pc L (.int x :: S))) := by
  obtain ⟨⟨hx, rfl, rfl, hown, hnm, rfl, hlk, hZ, hn0⟩, locs, X, rfl, N⟩ := P
  exact k.via fun t q => XS.tswIn X.here hx rfl (pc0 := pc) (pc' := pc') rfl hd rfl hin hf ho hp q
end Plain
end G
end Jvm.OwnW
namespace Jvm.Pilot.@@N@@
open Jvm Jvm.ClassFile Sem Op Lib Jvm.Free Jvm.Stand Jvm.LawKit Jvm.RoadKit Jvm.OwnW Bundle Jvm.Pilot.@@N@@.Jvm.D
theorem wd {Z : State} {a0 : Array Value} (hw : ∀ d ∈ tables_1, d.before a0 Z = true) {i : Nat} {d : Jvm.Cond} (h : tables_1[i]? = some d) : d.before a0 Z = true := hw _ (List.mem_of_getElem? h)
/-- bytes alone -/
def Byt (n : Nat) (f : Nat → Int32) : Prop := ∀ i, i < n → fits .byte (.int (f i)) = true
def cpy (g f : Nat → Int32) (sp dp nn : Nat) : Nat → Int32 := fun i => if dp ≤ i ∧ i < dp + nn then f (sp + (i - dp)) else g i
theorem own_getD (n : Nat) (f : Nat → Int32) (i : Nat) (hi : i < n) : ((List.range n).map fun i => Value.int (f i)).getD i (.int 0) = .int (f i) := by
  rw [List.getD_eq_getElem?_getD, List.getElem?_map, List.getElem?_range hi]
  rfl
theorem own_arv {Z : State} {h : Heap} {a : Addr} {n : Nat} {f : Nat → Int32} (A : Ints Z h a .byte n f) (B : Byt n f) : ∃ k z, Arv Z h a k .byte z ((List.range n).map fun i => Value.int (f i)) (.int 0) ∧ z.toNatClampNeg = n := by
  obtain ⟨hn, c, Ar, sz, r⟩ := A
  have e : (Nat.toInt32 n).toNatClampNeg = n := by simp only [Int32.toNatClampNeg, len_toInt hn]; rfl
  have e2 : ¬ Nat.toInt32 n < 0 := by rw [Int32.lt_iff_toInt_lt, len_toInt hn]; show ¬ (n : Int) < 0; omega
  refine ⟨c.cls, Nat.toInt32 n, ⟨c, Ar, rfl, sz.trans e.symm, e2, fun i hi => ?_, fun i hi => ?_⟩, e⟩
  · rw [own_getD n f i (by omega)]; exact r i (by omega)
  · rw [own_getD n f i (by omega)]; exact B i (by omega)
theorem own_back {Z : State} {h : Heap} {a : Addr} {k : ClassId} {z : Int32} {n nd sp dp nn : Nat} {f g : Nat → Int32} (hz : z.toNatClampNeg = nd) (h4 : sp + nn ≤ n) (h5 : dp + nn ≤ nd) (hnd : nd < 2 ^ 31) (A : Arv Z h a k .byte z (((List.range nd).map fun i => Value.int (g i)).take dp ++ ((List.range nn).map fun i => ((List.range n).map fun i => Value.int (f i)).getD (sp + i) (.int 0)) ++ ((List.range nd).map fun i => Value.int (g i)).drop (dp + nn)) (.int 0)) : Ints Z h a .byte nd (cpy g f sp dp nn) := by
  obtain ⟨c, Ar, -, sz, -, H, -⟩ := A
  refine ⟨hnd, c, Ar, sz.trans hz, fun i hi => ?_⟩
  rw [H i (by omega)]
  refine congrArg some ?_
  rw [List.getD_eq_getElem?_getD]
  have l1 : (((List.range nd).map fun i => Value.int (g i)).take dp).length = dp := by simp; omega
  by_cases c1 : i < dp
  · rw [List.append_assoc, List.getElem?_append_left (by omega), List.getElem?_take_of_lt c1, List.getElem?_map, List.getElem?_range hi]
    have q : ¬ (dp ≤ i ∧ i < dp + nn) := by omega
    simp [cpy, q]
  · by_cases c2 : i < dp + nn
    · rw [List.getElem?_append_left (by simp; omega), List.getElem?_append_right (by omega), l1, List.getElem?_map, List.getElem?_range (by omega)]
      have q : dp ≤ i ∧ i < dp + nn := by omega
      show ((List.range n).map fun i => Value.int (f i)).getD (sp + (i - dp)) (.int 0) = _
      rw [own_getD n f _ (by omega)]
      simp [cpy, q]
    · rw [List.getElem?_append_right (by simp; omega), List.getElem?_drop]
      have q : ¬ (dp ≤ i ∧ i < dp + nn) := by omega
      have e3 : dp + nn + (i - (((List.range nd).map fun i => Value.int (g i)).take dp ++ ((List.range nn).map fun i => ((List.range n).map fun i => Value.int (f i)).getD (sp + i) (.int 0))).length) = i := by
        rw [List.length_append, l1]; simp; omega
      rw [e3, List.getElem?_map, List.getElem?_range hi]
      simp [cpy, q]
theorem own_copy {Z : State} {y : MethodName} {bytes : ByteArray} {maxL : Nat} {ret : Option FieldType} {n0 : Nat} {p : Program} {l : Launch} {e : Env} {R : Room} {s : State} {m : MethodId} {args : Array Value} {below : List Frame} {meth : Method} {c : Code} {T : State} {h : Heap} {cells slots kc ks : Nat} {Q : Option Value → Heap → Prop} {pc pc' : Nat} {L : Array Slot} {S : List Value} {a0 : Array Value} (P : Pos Z y bytes maxL ret n0 p l e R s m args below meth c T h cells slots) {a b : Addr} {n nd sp dp nn i W : Nat} {f g : Nat → Int32} {jsp jdp jn : Int32} (w1 : (Jvm.Cond.methodLink y.cls i Jvm.Stand.acN).before a0 Z = true) (w2 : (Jvm.Cond.native Jvm.Stand.acN).before a0 Z = true) (w3 : (Jvm.Cond.static Jvm.Stand.acN).before a0 Z = true) (w4 : (Jvm.Cond.initialized "java/lang/System").before a0 Z = true) (A : Ints Z h a .byte n f) (B : Ints Z h b .byte nd g) (bf : Byt n f) (bg : Byt nd g) (hsp : jsp.toInt = (sp : Int)) (hdp : jdp.toInt = (dp : Int)) (hnn : jn.toInt = (nn : Int)) (h4 : sp + nn ≤ n) (h5 : dp + nn ≤ nd) (hg : n0 ≤ b) (hf : 1 ≤ R.frames) (hW : (S.map fun v => v.category).sum ≤ W) (hlo : W + 18 ≤ R.locals) (hsz : L.size = maxL) (hd : decode bytes pc = .ok (.invokestatic i, 3)) (hp : pc + 3 = pc') (k : ∀ T' h', Pos Z y bytes maxL ret n0 p l e R s m args below meth c T' h' cells slots → Keep h h' [b] → Ints Z h' b .byte nd (cpy g f sp dp nn) → Goes p e below s n0 kc ks Q (T'.setTop (mkF m pc' L S))) : Goes p e below s n0 kc ks Q (T.setTop (mkF m pc L (.int jn :: .int jdp :: .ref b :: .int jsp :: .ref a :: S))) := by
  obtain ⟨⟨hx, rfl, rfl, hown, hnm, rfl, hlk, hZ, hn0⟩, locs, X, rfl, N⟩ := P
  subst hp
  obtain ⟨ka, za, A', ea⟩ := own_arv A bf
  obtain ⟨kb, zb, B', eb⟩ := own_arv B bg
  have q4 : jsp.toNatClampNeg + jn.toNatClampNeg ≤ za.toNatClampNeg := by rw [(idx hsp).2, (idx hnn).2, ea]; exact h4
  have q5 : jdp.toNatClampNeg + jn.toNatClampNeg ≤ zb.toNatClampNeg := by rw [(idx hdp).2, (idx hnn).2, eb]; exact h5
  have q6 : jdp.toNatClampNeg + jn.toNatClampNeg ≤ ((List.range nd).map fun i => Value.int (g i)).length := by rw [(idx hdp).2, (idx hnn).2, List.length_map, List.length_range]; exact h5
  obtain ⟨T', h', L1, X', e', N', K', R', st⟩ := cpA X hx hZ hown w1 w2 w3 w4 rfl A' B' (Or.inl ⟨rfl, rfl⟩) (idx hsp).1 (idx hdp).1 (idx hnn).1 q4 q5 rfl q6 N hg (g := mkF m pc L (.int jn :: .int jdp :: .ref b :: .int jsp :: .ref a :: S)) rfl hsz rfl hd hf (W := W) (by have q0 := hW; show 2 * 0 + _ ≤ _; omega) hlo
  rw [(idx hsp).2, (idx hdp).2, (idx hnn).2] at R'
  exact (k T' h' ⟨⟨hx, rfl, rfl, hown, hnm, rfl, hlk, hZ, hn0⟩, _, X', e', N'⟩ K' (own_back eb h4 h5 B.1 R')).via st
theorem own_toInt {n : Nat} (h : n < 2147483648) : (Int32.ofNat n).toInt = (n : Int) := Int32.toInt_ofNat_of_lt h
theorem own_lt {a b : Nat} (ha : a < 2147483648) (hb : b < 2147483648) : Int32.ofNat a < Int32.ofNat b ↔ a < b := by
  rw [Int32.lt_iff_toInt_lt, own_toInt ha, own_toInt hb]; omega
theorem own_lt0 {b : Nat} (hb : b < 2147483648) : 0 < Int32.ofNat b ↔ 0 < b := own_lt (a := 0) (by omega) hb
theorem own_lt256 {b : Nat} (hb : b < 2147483648) : (256 : Int32) < Int32.ofNat b ↔ 256 < b := own_lt (a := 256) (by omega) hb
theorem own_succ (a : Nat) : Int32.ofNat a + 1 = Int32.ofNat (a + 1) := (Int32.ofNat_add a 1).symm
theorem own_pred {a : Nat} (h : 0 < a) : Int32.ofNat a - 1 = Int32.ofNat (a - 1) := by
  obtain ⟨b, rfl⟩ : ∃ b, a = b + 1 := ⟨a - 1, by omega⟩
  rw [← own_succ, Int32.add_sub_cancel]
  rfl
theorem own_ofn {a b : Nat} (ha : a < 100000) (hb : b < 100000) : Int32.ofNat a = Int32.ofNat b ↔ a = b := by
  rw [← Int32.toInt_inj, own_toInt (by omega), own_toInt (by omega)]
  omega
theorem own_z0 {n : Nat} : Byt n (fun _ => 0) := fun _ _ => by show fits .byte (.int 0) = true; decide
theorem own_bytc {n m sp dp nn : Nat} {f g : Nat → Int32} (hg : Byt n g) (hf : Byt m f) (h : sp + nn ≤ m) : Byt n (cpy g f sp dp nn) := by
  intro i hi
  unfold cpy
  split
  · exact hf _ (by omega)
  · exact hg i hi
theorem own_fit {x : Int32} (h1 : -128 ≤ x.toInt) (h2 : x.toInt < 128) : fits .byte (.int x) = true := by
  have a : (-128 : Int32).toInt = -128 := by decide
  have b : (127 : Int32).toInt = 127 := by decide
  show (decide ((-128 : Int32) ≤ x) && decide (x ≤ (127 : Int32))) = true
  rw [Bool.and_eq_true, decide_eq_true_eq, decide_eq_true_eq, Int32.le_iff_toInt_le, Int32.le_iff_toInt_le, a, b]
  omega
theorem own_fitn (x : Int32) : fits .byte (.int (nar .byte x)) = true := by
  have h := c_i2b x
  show fits .byte (.int x.toInt8.toInt32) = true
  exact own_fit (by omega) (by omega)
theorem own_bytu {n i : Nat} {f : Nat → Int32} {x : Int32} (hf : Byt n f) : Byt n (oupd f i (nar .byte x)) := by
  intro j hj
  unfold oupd
  split
  · exact own_fitn x
  · exact hf j hj
theorem own_nar {x : Int32} (h : fits .byte (.int x) = true) : nar .byte x = x := by
  have a : (-128 : Int32).toInt = -128 := by decide
  have b : (127 : Int32).toInt = 127 := by decide
  have h' : (decide ((-128 : Int32) ≤ x) && decide (x ≤ (127 : Int32))) = true := h
  rw [Bool.and_eq_true, decide_eq_true_eq, decide_eq_true_eq, Int32.le_iff_toInt_le, Int32.le_iff_toInt_le, a, b] at h'
  have q := c_i2b x
  show x.toInt8.toInt32 = x
  apply Int32.toInt_inj.mp
  omega
theorem own_nn {p x : Int32} (h : p.toInt8.toInt32 = x) : nar .byte (nar .byte x) = x := by
  subst h
  rw [own_nar (own_fitn _)]
  exact own_nar (own_fitn p)
theorem own_us {g : Nat → Int32} {i j : Nat} {v : Int32} (h : i = j) : oupd g j v i = v := by simp [oupd, h]
theorem own_un {g : Nat → Int32} {i j : Nat} {v : Int32} (h : i ≠ j) : oupd g j v i = g i := by simp [oupd, h]
theorem own_cin {g f : Nat → Int32} {nn i : Nat} (h : i < nn) : cpy g f 0 0 nn i = f i := by simp [cpy, h]
theorem own_k (x k : Int32) (h : (x &&& 2147483647) % 513 = k) : ∃ g : Nat, g ≤ 512 ∧ k = Int32.ofNat g := by
  have h1 := c_mask x 2147483647 31 (by decide) (by decide)
  have h2 := (c_irem (x &&& 2147483647) 513 513 (by decide)).1 (by omega)
  rw [h] at h2
  refine ⟨k.toInt.toNat, by omega, ?_⟩
  apply Int32.toInt_inj.mp
  rw [own_toInt (by omega)]
  omega
theorem own_cases (k : Nat) (h : k ≤ 512) : k = 0 ∨ (0 < k ∧ k < 255) ∨ k = 255 ∨ k = 256 ∨ (257 ≤ k ∧ k ≤ 510) ∨ k = 511 ∨ k = 512 := by omega
def ObBY (Z : State) (h : Heap) (a : Addr) (v0 v1 : Value) : Prop := Exa Z h a "com/example/labrelay/labrelay/Bytes" ∧ Fld Z h a "com/example/labrelay/labrelay/Bytes" "buffer" "[B" v0 ∧ Fld Z h a "com/example/labrelay/labrelay/Bytes" "size" "I" v1
theorem ObBY.lt {Z : State} {h : Heap} {a : Addr} {v0 v1 : Value} (O : ObBY Z h a v0 v1) : a < h.size := O.1.lt
theorem ObBY.ext {Z : State} {h h' : Heap} {a : Addr} {v0 v1 : Value} (O : ObBY Z h a v0 v1) (E : Ext h h') : ObBY Z h' a v0 v1 := ⟨O.1.ext E, O.2.1.ext E, O.2.2.ext E⟩
theorem ObBY.other {Z : State} {h h' : Heap} {a b : Addr} {sl : Nat} {v : Value} {v0 v1 : Value} (O : ObBY Z h b v0 v1) (W : Wr h h' a sl v) (q : b ≠ a) : ObBY Z h' b v0 v1 := ⟨O.1.wr W, O.2.1.other W (Or.inl q), O.2.2.other W (Or.inl q)⟩
theorem ObBY.keep {Z : State} {h h' : Heap} {a : Addr} {ws : List Addr} {v0 v1 : Value} (O : ObBY Z h a v0 v1) (K : Keep h h' ws) (q : a ∉ ws) : ObBY Z h' a v0 v1 := ⟨O.1.keep K, O.2.1.keep K q, O.2.2.keep K q⟩
theorem ObBY.put0 {Z : State} {h h' : Heap} {a : Addr} {v : Value} {a0 : Array Value} {v0 v1 : Value} (hw : ∀ d ∈ tables_1, d.before a0 Z = true) (O : ObBY Z h a v0 v1) (W : Wr h h' a (RoadKit.slotOf Z "com/example/labrelay/labrelay/Bytes" "buffer" "[B") v) : ObBY Z h' a v v1 := ⟨O.1.wr W, O.2.1.same W, O.2.2.other W (Or.inr (slot_ne (a0 := a0) (C := "com/example/labrelay/labrelay/Bytes") (Or.inl (wd hw (i := 19) rfl)) (Or.inl (wd hw (i := 12) rfl)) (by decide) (t := .int) (t' := (.array .byte)) (by decide) (by decide)))⟩
theorem ObBY.put1 {Z : State} {h h' : Heap} {a : Addr} {v : Value} {a0 : Array Value} {v0 v1 : Value} (hw : ∀ d ∈ tables_1, d.before a0 Z = true) (O : ObBY Z h a v0 v1) (W : Wr h h' a (RoadKit.slotOf Z "com/example/labrelay/labrelay/Bytes" "size" "I") v) : ObBY Z h' a v0 v := ⟨O.1.wr W, O.2.1.other W (Or.inr (slot_ne (a0 := a0) (C := "com/example/labrelay/labrelay/Bytes") (Or.inl (wd hw (i := 12) rfl)) (Or.inl (wd hw (i := 19) rfl)) (by decide) (t := (.array .byte)) (t' := .int) (by decide) (by decide))), O.2.2.same W⟩
theorem ObBY.new {Z : State} {h : Heap} {a : Addr} {a0 : Array Value} (hw : ∀ d ∈ tables_1, d.before a0 Z = true) (A : Exa Z h a "com/example/labrelay/labrelay/Bytes") (D : ∀ {O nm d : String} {ty : FieldType}, Laid Z a0 "com/example/labrelay/labrelay/Bytes" O nm d → parseFieldDescriptor d = some ty → Fld Z h a O nm d (defaultValue ty)) : ObBY Z h a .null (.int 0) := ⟨A, D (Or.inl (wd hw (i := 12) rfl)) (ty := (.array .byte)) (by decide), D (Or.inl (wd hw (i := 19) rfl)) (ty := .int) (by decide)⟩
theorem d7_0 : decode jdk_29_method_65_code 0 = .ok (.iload_n 0, 1) := by decide +kernel
theorem d7_1 : decode jdk_29_method_65_code 1 = .ok (.iload_n 1, 1) := by decide +kernel
theorem d7_2 : decode jdk_29_method_65_code 2 = .ok (.if_icmp .lt 7, 3) := by decide +kernel
theorem d7_5 : decode jdk_29_method_65_code 5 = .ok (.iload_n 0, 1) := by decide +kernel
theorem d7_6 : decode jdk_29_method_65_code 6 = .ok (.goto 4, 3) := by decide +kernel
theorem d7_9 : decode jdk_29_method_65_code 9 = .ok (.iload_n 1, 1) := by decide +kernel
theorem d7_10 : decode jdk_29_method_65_code 10 = .ok (.ireturn, 1) := by decide +kernel
theorem pd_7 : parseMethodDescriptor "(II)I" = some ⟨[.int, .int], some .int⟩ := by decide +kernel
def f7 (p0 : Int32) (p1 : Int32) : Int32 := (if p0 < p1 then p1 else p0)
abbrev room7 : Room := { frames := 0, cells := 0, slots := 0, locals := 0 }
def Q7 (p0 : Int32) (p1 : Int32) (h0 : Heap) (vv : Option Value) (hh : Heap) : Prop := vv = some (.int (f7 p0 p1)) ∧ h0 = hh
theorem ef_7 (m : MethodId) (p0 : Int32) (p1 : Int32) : entryFrame m #[(.int p0), (.int p1)] 2 = mkF m 0 #[.val (.int p0), .val (.int p1)] [] := by first | (simp [entryFrame, mkF, argsToLocals, Value.category]; done) | rfl
set_option maxRecDepth 65536 in
set_option maxHeartbeats 40000000 in
theorem rm7 {l : Launch} {Z : State} {aw : Array Value} (hw : ∀ d ∈ tables_1, d.before aw Z = true) {n0 : Nat} (p0 : Int32) (p1 : Int32) (h0 : Heap) (hn0 : n0 ≤ h0.size) :
    Con l Z (⟨"java/lang/Math", "max", "(II)I"⟩ : MethodName) jdk_29_method_65_code 2 (some .int) room7 n0 #[(.int p0), (.int p1)] h0 (Q7 p0 p1 h0) := by
  refine Con.body (Jvm.Free.JP.mathPlain rfl (by decide +kernel)) hn0 (fun m => ef_7 m p0 p1) ?_
  intro p e s m below meth c T P
  refine G.iloadN P d7_0 rfl (pc' := 1) rfl ?_
  refine G.iloadN P d7_1 rfl (pc' := 2) rfl ?_
  have J10_2 : ∀ (z1 : Int32), z1 = (if p0 < p1 then p1 else p0) → Goes p e below s n0 room7.cells room7.slots (Q7 p0 p1 h0) (T.setTop (mkF m 10 #[.val (.int p0), .val (.int p1)] [(.int z1)])) := by
    intro z1 hz1
    exact G.ireturn P rfl d7_10 (by decide) (by decide) ⟨by subst hz1; simp only [f7], rfl⟩
  refine G.icmp_lt P d7_2 (by decide) (pcY := 9) (by decide) (pcN := 5) rfl (fun c2 => ?_) (fun c2 => ?_)
  · refine G.iloadN P d7_9 rfl (pc' := 10) rfl ?_
    exact J10_2 _ (by simp only [if_pos c2])
  · refine G.iloadN P d7_5 rfl (pc' := 6) rfl ?_
    refine G.goto P d7_6 (by decide) (pc' := 10) (by decide) ?_
    exact J10_2 _ (by simp only [if_neg c2])
theorem d9_0 : decode jdk_29_method_69_code 0 = .ok (.iload_n 0, 1) := by decide +kernel
theorem d9_1 : decode jdk_29_method_69_code 1 = .ok (.iload_n 1, 1) := by decide +kernel
theorem d9_2 : decode jdk_29_method_69_code 2 = .ok (.if_icmp .gt 7, 3) := by decide +kernel
theorem d9_5 : decode jdk_29_method_69_code 5 = .ok (.iload_n 0, 1) := by decide +kernel
theorem d9_6 : decode jdk_29_method_69_code 6 = .ok (.goto 4, 3) := by decide +kernel
theorem d9_9 : decode jdk_29_method_69_code 9 = .ok (.iload_n 1, 1) := by decide +kernel
theorem d9_10 : decode jdk_29_method_69_code 10 = .ok (.ireturn, 1) := by decide +kernel
theorem pd_9 : parseMethodDescriptor "(II)I" = some ⟨[.int, .int], some .int⟩ := by decide +kernel
def f9 (p0 : Int32) (p1 : Int32) : Int32 := (if p1 < p0 then p1 else p0)
abbrev room9 : Room := { frames := 0, cells := 0, slots := 0, locals := 0 }
def Q9 (p0 : Int32) (p1 : Int32) (h0 : Heap) (vv : Option Value) (hh : Heap) : Prop := vv = some (.int (f9 p0 p1)) ∧ h0 = hh
theorem ef_9 (m : MethodId) (p0 : Int32) (p1 : Int32) : entryFrame m #[(.int p0), (.int p1)] 2 = mkF m 0 #[.val (.int p0), .val (.int p1)] [] := by first | (simp [entryFrame, mkF, argsToLocals, Value.category]; done) | rfl
set_option maxRecDepth 65536 in
set_option maxHeartbeats 40000000 in
theorem rm9 {l : Launch} {Z : State} {aw : Array Value} (hw : ∀ d ∈ tables_1, d.before aw Z = true) {n0 : Nat} (p0 : Int32) (p1 : Int32) (h0 : Heap) (hn0 : n0 ≤ h0.size) :
    Con l Z (⟨"java/lang/Math", "min", "(II)I"⟩ : MethodName) jdk_29_method_69_code 2 (some .int) room9 n0 #[(.int p0), (.int p1)] h0 (Q9 p0 p1 h0) := by
  refine Con.body (Jvm.Free.JP.mathPlain rfl (by decide +kernel)) hn0 (fun m => ef_9 m p0 p1) ?_
  intro p e s m below meth c T P
  refine G.iloadN P d9_0 rfl (pc' := 1) rfl ?_
  refine G.iloadN P d9_1 rfl (pc' := 2) rfl ?_
  have J10_2 : ∀ (z2 : Int32), z2 = (if p1 < p0 then p1 else p0) → Goes p e below s n0 room9.cells room9.slots (Q9 p0 p1 h0) (T.setTop (mkF m 10 #[.val (.int p0), .val (.int p1)] [(.int z2)])) := by
    intro z2 hz2
    exact G.ireturn P rfl d9_10 (by decide) (by decide) ⟨by subst hz2; simp only [f9], rfl⟩
  refine G.icmp_gt P d9_2 (by decide) (pcY := 9) (by decide) (pcN := 5) rfl (fun c2 => ?_) (fun c2 => ?_)
  · refine G.iloadN P d9_9 rfl (pc' := 10) rfl ?_
    exact J10_2 _ (by simp only [if_pos c2])
  · refine G.iloadN P d9_5 rfl (pc' := 6) rfl ?_
    refine G.goto P d9_6 (by decide) (pc' := 10) (by decide) ?_
    exact J10_2 _ (by simp only [if_neg c2])
theorem own_mx {k : Nat} (h : k ≤ 512) : f7 ((256 : Int32) * (2 : Int32)) (Int32.ofNat k) = (512 : Int32) := by
  have q : ¬ (512 : Int32) < Int32.ofNat k := fun q => by
    have q2 := (own_lt (a := 512) (b := k) (by omega) (by omega)).mp q
    omega
  have e : (256 : Int32) * (2 : Int32) = 512 := by decide
  rw [e]
  show (if (512 : Int32) < Int32.ofNat k then Int32.ofNat k else (512 : Int32)) = 512
  rw [if_neg q]
theorem d1_0 : decode prog_1_method_1_code 0 = .ok (.aload_n 0, 1) := by decide +kernel
theorem d1_1 : decode prog_1_method_1_code 1 = .ok (.invokespecial 1, 3) := by decide +kernel
theorem d1_4 : decode prog_1_method_1_code 4 = .ok (.aload_n 0, 1) := by decide +kernel
theorem d1_5 : decode prog_1_method_1_code 5 = .ok (.sipush 256, 3) := by decide +kernel
theorem d1_8 : decode prog_1_method_1_code 8 = .ok (.newarray .byte, 2) := by decide +kernel
theorem d1_10 : decode prog_1_method_1_code 10 = .ok (.putfield 7, 3) := by decide +kernel
theorem d1_13 : decode prog_1_method_1_code 13 = .ok (.return_, 1) := by decide +kernel
theorem pn_1 : plainName "com/example/labrelay/labrelay/Bytes" = true := by first | (simp [plainName, overriddenIn]; done) | decide +kernel
theorem pd_1 : parseMethodDescriptor "()V" = some ⟨[], none⟩ := by decide +kernel
abbrev room1 : Room := { frames := 1, cells := 1, slots := 256, locals := 12 }
def Q1 (Z : State) (a0 : Addr) (h0 : Heap) (vv : Option Value) (hh : Heap) : Prop := ∃ b : Addr, vv = none ∧ h0.size ≤ b ∧ Keep h0 hh [a0] ∧ Ints Z hh b .byte 256 (fun _ => 0) ∧ ObBY Z hh a0 (.ref b) (.int (0 : Int32))
theorem ef_1 (m : MethodId) (a0 : Addr) : entryFrame m #[(.ref a0)] 1 = mkF m 0 #[.val (.ref a0)] [] := by first | (simp [entryFrame, mkF, argsToLocals, Value.category]; done) | rfl
set_option maxRecDepth 65536 in
set_option maxHeartbeats 40000000 in
theorem rm1 {l : Launch} {Z : State} {aw : Array Value} (hw : ∀ d ∈ tables_1, d.before aw Z = true) {n0 : Nat} (a0 : Addr) (h0 : Heap) (O : ObBY Z h0 a0 .null (.int (0 : Int32))) (g_a0 : n0 ≤ a0) (hn0 : n0 ≤ h0.size) :
    Con l Z (⟨"com/example/labrelay/labrelay/Bytes", "<init>", "()V"⟩ : MethodName) prog_1_method_1_code 1 none room1 n0 #[(.ref a0)] h0 (Q1 Z a0 h0) := by
  refine Con.body (plainFor_of_name pn_1) hn0 (fun m => ef_1 m a0) ?_
  intro p e s m below meth c T P
  have K := Keep.refl h0 [a0]
  refine G.aloadN P d1_0 rfl rfl (pc' := 1) rfl ?_
  refine G.initO P (wd hw (i := 8) rfl) (wd hw (i := 9) rfl) (wd hw (i := 10) rfl) rfl d1_1 (by decide) (W := 0) (Nat.le_of_eq rfl) (by decide) (pc' := 4) rfl (fun T P => ?_)
  refine G.aloadN P d1_4 rfl rfl (pc' := 5) rfl ?_
  refine G.sipush P d1_5 (v := (256 : Int32)) rfl (pc' := 8) rfl ?_
  refine G.newarray P (wd hw (i := 1) rfl) rfl (N := 256) (by decide) (cap := 256) (Nat.le_refl _) (by decide) d1_8 (cells' := 1) rfl (slots' := 256) rfl (by decide) (by decide) (pc' := 10) rfl ?_
  intro T h3 b3 hb3 g_b3 P E3 A3
  have ne_a0_b3 : a0 ≠ b3 := by rw [hb3]; exact Nat.ne_of_lt O.lt
  replace O := O.ext E3
  have sz_b3 : h0.size ≤ b3 := by rw [hb3]; exact K.1
  replace K := K.ext E3
  replace A3 : Ints Z h3 b3 .byte 256 (fun _ => 0) := A3
  refine G.putF P (host := "") (Or.inl (wd hw (i := 11) rfl)) Via.refl O.2.1 O.1 (Or.inl (wd hw (i := 12) rfl)) (wd hw (i := 3) rfl) (ty := (.array .byte)) (by decide) rfl rfl g_a0 d1_10 (pc' := 13) rfl ?_
  intro T h5 P W4
  replace O := O.put0 hw W4
  replace A3 := A3.other W4 (Ne.symm ne_a0_b3)
  replace K := K.wr W4 (Or.inl (by simp))
  exact G.return_ P rfl d1_13 (by decide) (by decide) ⟨b3, rfl, sz_b3, K, A3, O⟩
theorem d8_0 : decode jdk_65_method_121_code 0 = .ok (.iload_n 1, 1) := by decide +kernel
theorem d8_1 : decode jdk_65_method_121_code 1 = .ok (.aload_n 0, 1) := by decide +kernel
theorem d8_2 : decode jdk_65_method_121_code 2 = .ok (.arraylength, 1) := by decide +kernel
theorem d8_3 : decode jdk_65_method_121_code 3 = .ok (.if_icmp .ne 11, 3) := by decide +kernel
theorem d8_6 : decode jdk_65_method_121_code 6 = .ok (.aload_n 0, 1) := by decide +kernel
theorem d8_7 : decode jdk_65_method_121_code 7 = .ok (.invokevirtual 310, 3) := by decide +kernel
theorem d8_10 : decode jdk_65_method_121_code 10 = .ok (.checkcast 311, 3) := by decide +kernel
theorem d8_13 : decode jdk_65_method_121_code 13 = .ok (.areturn, 1) := by decide +kernel
theorem d8_14 : decode jdk_65_method_121_code 14 = .ok (.iload_n 1, 1) := by decide +kernel
theorem d8_15 : decode jdk_65_method_121_code 15 = .ok (.newarray .byte, 2) := by decide +kernel
theorem d8_17 : decode jdk_65_method_121_code 17 = .ok (.astore_n 2, 1) := by decide +kernel
theorem d8_18 : decode jdk_65_method_121_code 18 = .ok (.aload_n 0, 1) := by decide +kernel
theorem d8_19 : decode jdk_65_method_121_code 19 = .ok (.iconst 0, 1) := by decide +kernel
theorem d8_20 : decode jdk_65_method_121_code 20 = .ok (.aload_n 2, 1) := by decide +kernel
theorem d8_21 : decode jdk_65_method_121_code 21 = .ok (.iconst 0, 1) := by decide +kernel
theorem d8_22 : decode jdk_65_method_121_code 22 = .ok (.aload_n 0, 1) := by decide +kernel
theorem d8_23 : decode jdk_65_method_121_code 23 = .ok (.arraylength, 1) := by decide +kernel
theorem d8_24 : decode jdk_65_method_121_code 24 = .ok (.iload_n 1, 1) := by decide +kernel
theorem d8_25 : decode jdk_65_method_121_code 25 = .ok (.invokestatic 304, 3) := by decide +kernel
theorem d8_28 : decode jdk_65_method_121_code 28 = .ok (.invokestatic 150, 3) := by decide +kernel
theorem d8_31 : decode jdk_65_method_121_code 31 = .ok (.aload_n 2, 1) := by decide +kernel
theorem d8_32 : decode jdk_65_method_121_code 32 = .ok (.areturn, 1) := by decide +kernel
theorem pn_8 : plainName "java/util/Arrays" = true := by first | (simp [plainName, overriddenIn]; done) | decide +kernel
theorem pd_8 : parseMethodDescriptor "([BI)[B" = some ⟨[(.array .byte), .int], some (.array .byte)⟩ := by decide +kernel
abbrev room8a : Room := { frames := 1, cells := 1, slots := 512, locals := 18 }
def Q8a (Z : State) (a0 : Addr) (f : Nat → Int32) (h0 : Heap) (vv : Option Value) (hh : Heap) : Prop := ∃ b : Addr, vv = some (.ref b) ∧ h0.size ≤ b ∧ Keep h0 hh [] ∧ Ints Z hh b .byte 512 (cpy (fun _ => 0) f 0 0 256) ∧ Ints Z hh a0 .byte 256 f
theorem ef_8a (m : MethodId) (a0 : Addr) (p1 : Int32) : entryFrame m #[(.ref a0), (.int p1)] 3 = mkF m 0 #[.val (.ref a0), .val (.int p1), .unset] [] := by first | (simp [entryFrame, mkF, argsToLocals, Value.category]; done) | rfl
set_option maxRecDepth 65536 in
set_option maxHeartbeats 40000000 in
theorem rm8a {l : Launch} {Z : State} {aw : Array Value} (hw : ∀ d ∈ tables_1, d.before aw Z = true) {n0 : Nat} (a0 : Addr) (f : Nat → Int32) (h0 : Heap) (A : Ints Z h0 a0 .byte 256 f) (bf : Byt 256 f) (hn0 : n0 ≤ h0.size) :
    Con l Z (⟨"java/util/Arrays", "copyOf", "([BI)[B"⟩ : MethodName) jdk_65_method_121_code 3 (some (.array .byte)) room8a n0 #[(.ref a0), (.int (512 : Int32))] h0 (Q8a Z a0 f h0) := by
  refine Con.body (plainFor_of_name pn_8) hn0 (fun m => ef_8a m a0 (512 : Int32)) ?_
  intro p e s m below meth c T P
  have K := Keep.refl h0 []
  refine G.iloadN P d8_0 rfl (pc' := 1) rfl ?_
  refine G.aloadN P d8_1 rfl rfl (pc' := 2) rfl ?_
  refine G.arraylength P A (z := (256 : Int32)) (by decide) d8_2 (pc' := 3) rfl ?_
  refine G.icmp_ne P d8_3 (by decide) (pcY := 14) (by decide) (pcN := 6) rfl (fun _ => ?_) (fun c => absurd c (by decide))
  refine G.iloadN P d8_14 rfl (pc' := 15) rfl ?_
  refine G.newarray P (wd hw (i := 1) rfl) rfl (N := 512) (by decide) (cap := 512) (Nat.le_refl _) (by decide) d8_15 (cells' := 1) rfl (slots' := 512) rfl (by decide) (by decide) (pc' := 17) rfl ?_
  intro T h6 b6 hb6 g_b6 P E6 A6
  have ne_a0_b6 : a0 ≠ b6 := by rw [hb6]; exact Nat.ne_of_lt A.lt
  replace A := A.ext E6
  have sz_b6 : h0.size ≤ b6 := by rw [hb6]; exact K.1
  replace K := K.ext E6
  replace A6 : Ints Z h6 b6 .byte 512 (fun _ => 0) := A6
  refine G.astoreN P d8_17 rfl (L' := #[.val (.ref a0), .val (.int (512 : Int32)), .val (.ref b6)]) rfl (pc' := 18) rfl ?_
  refine G.aloadN P d8_18 rfl rfl (pc' := 19) rfl ?_
  refine G.iconst P d8_19 (v := (0 : Int32)) rfl (pc' := 20) rfl ?_
  refine G.aloadN P d8_20 rfl rfl (pc' := 21) rfl ?_
  refine G.iconst P d8_21 (v := (0 : Int32)) rfl (pc' := 22) rfl ?_
  refine G.aloadN P d8_22 rfl rfl (pc' := 23) rfl ?_
  refine G.arraylength P A (z := (256 : Int32)) (by decide) d8_23 (pc' := 24) rfl ?_
  refine G.iloadN P d8_24 rfl (pc' := 25) rfl ?_
  refine G.callS P (wd hw (i := 47) rfl) (wd hw (i := 48) rfl) (wd hw (i := 41) rfl) (wd hw (i := 49) rfl) (by decide) (argsL := [(.int (256 : Int32)), (.int (512 : Int32))]) (rm9 hw (256 : Int32) (512 : Int32) h6 P.sz) (by decide) (by decide) (cells' := 1) rfl (slots' := 512) rfl (by decide) (by decide) (lenOf pd_9 rfl) rfl (rest := [(.int (0 : Int32)), (.ref b6), (.int (0 : Int32)), (.ref a0)]) rfl (W := 4) (Nat.le_of_eq rfl) d8_25 (pc' := 28) rfl ?_
  rintro T _ _ P ⟨rfl, rfl⟩
  show Goes p e below s n0 room8a.cells room8a.slots (Q8a Z a0 f h0) (T.setTop (mkF m 28 #[.val (.ref a0), .val (.int (512 : Int32)), .val (.ref b6)] [(.int (f9 (256 : Int32) (512 : Int32))), (.int (0 : Int32)), (.ref b6), (.int (0 : Int32)), (.ref a0)]))
  generalize hr7 : (f9 (256 : Int32) (512 : Int32)) = r7
  refine own_copy P (wd hw (i := 50) rfl) (wd hw (i := 23) rfl) (wd hw (i := 21) rfl) (wd hw (i := 22) rfl) A A6 bf own_z0 (sp := 0) (dp := 0) (nn := 256) (by decide) (by decide) (by rw [← hr7]; decide) (by omega) (by omega) g_b6 (by decide) (W := 0) (Nat.le_of_eq rfl) (by decide) rfl d8_28 (pc' := 31) rfl ?_
  intro T h8 P K9 BK9
  replace A := A.keep K9 (ninS ne_a0_b6 nin0)
  replace A6 := BK9
  replace K := K.trans K9 (fun x hx => by cases List.mem_singleton.mp hx; exact Or.inr sz_b6)
  refine G.aloadN P d8_31 rfl rfl (pc' := 32) rfl ?_
  subst hr7
  exact G.areturn P rfl rfl rfl rfl d8_32 (by decide) (by decide) ⟨b6, rfl, sz_b6, K, A6, A⟩
abbrev room8b : Room := { frames := 1, cells := 1, slots := 1024, locals := 18 }
def Q8b (Z : State) (a0 : Addr) (f : Nat → Int32) (h0 : Heap) (vv : Option Value) (hh : Heap) : Prop := ∃ b : Addr, vv = some (.ref b) ∧ h0.size ≤ b ∧ Keep h0 hh [] ∧ Ints Z hh b .byte 1024 (cpy (fun _ => 0) f 0 0 512) ∧ Ints Z hh a0 .byte 512 f
theorem ef_8b (m : MethodId) (a0 : Addr) (p1 : Int32) : entryFrame m #[(.ref a0), (.int p1)] 3 = mkF m 0 #[.val (.ref a0), .val (.int p1), .unset] [] := by first | (simp [entryFrame, mkF, argsToLocals, Value.category]; done) | rfl
set_option maxRecDepth 65536 in
set_option maxHeartbeats 40000000 in
theorem rm8b {l : Launch} {Z : State} {aw : Array Value} (hw : ∀ d ∈ tables_1, d.before aw Z = true) {n0 : Nat} (a0 : Addr) (f : Nat → Int32) (h0 : Heap) (A : Ints Z h0 a0 .byte 512 f) (bf : Byt 512 f) (hn0 : n0 ≤ h0.size) :
    Con l Z (⟨"java/util/Arrays", "copyOf", "([BI)[B"⟩ : MethodName) jdk_65_method_121_code 3 (some (.array .byte)) room8b n0 #[(.ref a0), (.int (1024 : Int32))] h0 (Q8b Z a0 f h0) := by
  refine Con.body (plainFor_of_name pn_8) hn0 (fun m => ef_8b m a0 (1024 : Int32)) ?_
  intro p e s m below meth c T P
  have K := Keep.refl h0 []
  refine G.iloadN P d8_0 rfl (pc' := 1) rfl ?_
  refine G.aloadN P d8_1 rfl rfl (pc' := 2) rfl ?_
  refine G.arraylength P A (z := (512 : Int32)) (by decide) d8_2 (pc' := 3) rfl ?_
  refine G.icmp_ne P d8_3 (by decide) (pcY := 14) (by decide) (pcN := 6) rfl (fun _ => ?_) (fun c => absurd c (by decide))
  refine G.iloadN P d8_14 rfl (pc' := 15) rfl ?_
  refine G.newarray P (wd hw (i := 1) rfl) rfl (N := 1024) (by decide) (cap := 1024) (Nat.le_refl _) (by decide) d8_15 (cells' := 1) rfl (slots' := 1024) rfl (by decide) (by decide) (pc' := 17) rfl ?_
  intro T h10 b10 hb10 g_b10 P E10 A10
  have ne_a0_b10 : a0 ≠ b10 := by rw [hb10]; exact Nat.ne_of_lt A.lt
  replace A := A.ext E10
  have sz_b10 : h0.size ≤ b10 := by rw [hb10]; exact K.1
  replace K := K.ext E10
  replace A10 : Ints Z h10 b10 .byte 1024 (fun _ => 0) := A10
  refine G.astoreN P d8_17 rfl (L' := #[.val (.ref a0), .val (.int (1024 : Int32)), .val (.ref b10)]) rfl (pc' := 18) rfl ?_
  refine G.aloadN P d8_18 rfl rfl (pc' := 19) rfl ?_
  refine G.iconst P d8_19 (v := (0 : Int32)) rfl (pc' := 20) rfl ?_
  refine G.aloadN P d8_20 rfl rfl (pc' := 21) rfl ?_
  refine G.iconst P d8_21 (v := (0 : Int32)) rfl (pc' := 22) rfl ?_
  refine G.aloadN P d8_22 rfl rfl (pc' := 23) rfl ?_
  refine G.arraylength P A (z := (512 : Int32)) (by decide) d8_23 (pc' := 24) rfl ?_
  refine G.iloadN P d8_24 rfl (pc' := 25) rfl ?_
  refine G.callS P (wd hw (i := 47) rfl) (wd hw (i := 48) rfl) (wd hw (i := 41) rfl) (wd hw (i := 49) rfl) (by decide) (argsL := [(.int (512 : Int32)), (.int (1024 : Int32))]) (rm9 hw (512 : Int32) (1024 : Int32) h10 P.sz) (by decide) (by decide) (cells' := 1) rfl (slots' := 1024) rfl (by decide) (by decide) (lenOf pd_9 rfl) rfl (rest := [(.int (0 : Int32)), (.ref b10), (.int (0 : Int32)), (.ref a0)]) rfl (W := 4) (Nat.le_of_eq rfl) d8_25 (pc' := 28) rfl ?_
  rintro T _ _ P ⟨rfl, rfl⟩
  show Goes p e below s n0 room8b.cells room8b.slots (Q8b Z a0 f h0) (T.setTop (mkF m 28 #[.val (.ref a0), .val (.int (1024 : Int32)), .val (.ref b10)] [(.int (f9 (512 : Int32) (1024 : Int32))), (.int (0 : Int32)), (.ref b10), (.int (0 : Int32)), (.ref a0)]))
  generalize hr11 : (f9 (512 : Int32) (1024 : Int32)) = r11
  refine own_copy P (wd hw (i := 50) rfl) (wd hw (i := 23) rfl) (wd hw (i := 21) rfl) (wd hw (i := 22) rfl) A A10 bf own_z0 (sp := 0) (dp := 0) (nn := 512) (by decide) (by decide) (by rw [← hr11]; decide) (by omega) (by omega) g_b10 (by decide) (W := 0) (Nat.le_of_eq rfl) (by decide) rfl d8_28 (pc' := 31) rfl ?_
  intro T h12 P K13 BK13
  replace A := A.keep K13 (ninS ne_a0_b10 nin0)
  replace A10 := BK13
  replace K := K.trans K13 (fun x hx => by cases List.mem_singleton.mp hx; exact Or.inr sz_b10)
  refine G.aloadN P d8_31 rfl rfl (pc' := 32) rfl ?_
  subst hr11
  exact G.areturn P rfl rfl rfl rfl d8_32 (by decide) (by decide) ⟨b10, rfl, sz_b10, K, A10, A⟩
theorem d4_0 : decode prog_1_method_2_code 0 = .ok (.aload_n 0, 1) := by decide +kernel
theorem d4_1 : decode prog_1_method_2_code 1 = .ok (.getfield 13, 3) := by decide +kernel
theorem d4_4 : decode prog_1_method_2_code 4 = .ok (.aload_n 0, 1) := by decide +kernel
theorem d4_5 : decode prog_1_method_2_code 5 = .ok (.getfield 7, 3) := by decide +kernel
theorem d4_8 : decode prog_1_method_2_code 8 = .ok (.arraylength, 1) := by decide +kernel
theorem d4_9 : decode prog_1_method_2_code 9 = .ok (.if_icmp .ne 20, 3) := by decide +kernel
theorem d4_12 : decode prog_1_method_2_code 12 = .ok (.aload_n 0, 1) := by decide +kernel
theorem d4_13 : decode prog_1_method_2_code 13 = .ok (.aload_n 0, 1) := by decide +kernel
theorem d4_14 : decode prog_1_method_2_code 14 = .ok (.getfield 7, 3) := by decide +kernel
theorem d4_17 : decode prog_1_method_2_code 17 = .ok (.aload_n 0, 1) := by decide +kernel
theorem d4_18 : decode prog_1_method_2_code 18 = .ok (.getfield 13, 3) := by decide +kernel
theorem d4_21 : decode prog_1_method_2_code 21 = .ok (.iconst 2, 1) := by decide +kernel
theorem d4_22 : decode prog_1_method_2_code 22 = .ok (.imul, 1) := by decide +kernel
theorem d4_23 : decode prog_1_method_2_code 23 = .ok (.invokestatic 17, 3) := by decide +kernel
theorem d4_26 : decode prog_1_method_2_code 26 = .ok (.putfield 7, 3) := by decide +kernel
theorem d4_29 : decode prog_1_method_2_code 29 = .ok (.aload_n 0, 1) := by decide +kernel
theorem d4_30 : decode prog_1_method_2_code 30 = .ok (.getfield 7, 3) := by decide +kernel
theorem d4_33 : decode prog_1_method_2_code 33 = .ok (.aload_n 0, 1) := by decide +kernel
theorem d4_34 : decode prog_1_method_2_code 34 = .ok (.dup, 1) := by decide +kernel
theorem d4_35 : decode prog_1_method_2_code 35 = .ok (.getfield 13, 3) := by decide +kernel
theorem d4_38 : decode prog_1_method_2_code 38 = .ok (.dup_x1, 1) := by decide +kernel
theorem d4_39 : decode prog_1_method_2_code 39 = .ok (.iconst 1, 1) := by decide +kernel
theorem d4_40 : decode prog_1_method_2_code 40 = .ok (.iadd, 1) := by decide +kernel
theorem d4_41 : decode prog_1_method_2_code 41 = .ok (.putfield 13, 3) := by decide +kernel
theorem d4_44 : decode prog_1_method_2_code 44 = .ok (.iload_n 1, 1) := by decide +kernel
theorem d4_45 : decode prog_1_method_2_code 45 = .ok (.bastore, 1) := by decide +kernel
theorem d4_46 : decode prog_1_method_2_code 46 = .ok (.return_, 1) := by decide +kernel
theorem pn_4 : plainName "com/example/labrelay/labrelay/Bytes" = true := by first | (simp [plainName, overriddenIn]; done) | decide +kernel
theorem pd_4 : parseMethodDescriptor "(B)V" = some ⟨[.byte], none⟩ := by decide +kernel
abbrev room4N : Room := { frames := 0, cells := 0, slots := 0, locals := 0 }
def Q4N (Z : State) (a0 : Addr) (p1 : Int32) (t : Addr) (f : Nat → Int32) (sz : Nat) (n : Nat) (h0 : Heap) (vv : Option Value) (hh : Heap) : Prop := vv = none ∧ Keep h0 hh [a0, t] ∧ ObBY Z hh a0 (.ref t) (.int (Int32.ofNat (sz + 1))) ∧ Ints Z hh t .byte n (oupd f sz (nar .byte p1))
theorem ef_4N (m : MethodId) (a0 : Addr) (p1 : Int32) : entryFrame m #[(.ref a0), (.int p1)] 2 = mkF m 0 #[.val (.ref a0), .val (.int p1)] [] := by first | (simp [entryFrame, mkF, argsToLocals, Value.category]; done) | rfl
set_option maxRecDepth 65536 in
set_option maxHeartbeats 40000000 in
theorem rm4N {l : Launch} {Z : State} {aw : Array Value} (hw : ∀ d ∈ tables_1, d.before aw Z = true) {n0 : Nat} (a0 : Addr) (p1 : Int32) (t : Addr) (f : Nat → Int32) (sz : Nat) (n : Nat) (h0 : Heap) (O : ObBY Z h0 a0 (.ref t) (.int (Int32.ofNat sz))) (A : Ints Z h0 t .byte n f) (ne_a0_t : a0 ≠ t) (g_a0 : n0 ≤ a0) (g_t : n0 ≤ t) (hs : sz < n) (hn : n < 100000) (hn0 : n0 ≤ h0.size) :
    Con l Z (⟨"com/example/labrelay/labrelay/Bytes", "write", "(B)V"⟩ : MethodName) prog_1_method_2_code 2 none room4N n0 #[(.ref a0), (.int p1)] h0 (Q4N Z a0 p1 t f sz n h0) := by
  refine Con.body (plainFor_of_name pn_4) hn0 (fun m => ef_4N m a0 p1) ?_
  intro p e s m below meth c T P
  have K := Keep.refl h0 [a0, t]
  refine G.aloadN P d4_0 rfl rfl (pc' := 1) rfl ?_
  refine G.getF P (host := "") (Or.inl (wd hw (i := 18) rfl)) Via.refl O.2.2 d4_1 (pc' := 4) rfl ?_
  intro T P
  refine G.aloadN P d4_4 rfl rfl (pc' := 5) rfl ?_
  refine G.getF P (host := "") (Or.inl (wd hw (i := 11) rfl)) Via.refl O.2.1 d4_5 (pc' := 8) rfl ?_
  intro T P
  refine G.arraylength P A (z := (Int32.ofNat n)) (own_toInt (by omega)) d4_8 (pc' := 9) rfl ?_
  refine G.icmp_ne P d4_9 (by decide) (pcY := 29) (by decide) (pcN := 12) rfl (fun c9 => ?_) (fun c9 => ?_)
  · refine G.aloadN P d4_29 rfl rfl (pc' := 30) rfl ?_
    refine G.getF P (host := "") (Or.inl (wd hw (i := 11) rfl)) Via.refl O.2.1 d4_30 (pc' := 33) rfl ?_
    intro T P
    refine G.aloadN P d4_33 rfl rfl (pc' := 34) rfl ?_
    refine G.dup P d4_34 rfl (pc' := 35) rfl ?_
    refine G.getF P (host := "") (Or.inl (wd hw (i := 18) rfl)) Via.refl O.2.2 d4_35 (pc' := 38) rfl ?_
    intro T P
    refine G.dupX1 P d4_38 rfl rfl (pc' := 39) rfl ?_
    refine G.iconst P d4_39 (v := (1 : Int32)) rfl (pc' := 40) rfl ?_
    refine G.iadd P d4_40 (pc' := 41) rfl ?_
    refine G.top (x' := (Int32.ofNat (sz + 1))) (own_succ sz) ?_
    refine G.putF P (host := "") (Or.inl (wd hw (i := 18) rfl)) Via.refl O.2.2 O.1 (Or.inl (wd hw (i := 19) rfl)) (wd hw (i := 3) rfl) (ty := .int) (by decide) rfl rfl g_a0 d4_41 (pc' := 44) rfl ?_
    intro T h15 P W14
    replace O := O.put1 hw W14
    replace A := A.other W14 (Ne.symm ne_a0_t)
    replace K := K.wr W14 (Or.inl (by simp))
    refine G.iloadN P d4_44 rfl (pc' := 45) rfl ?_
    refine G.bastore P A (i := sz) (own_toInt (by omega)) hs g_t d4_45 (pc' := 46) rfl ?_
    intro T h17 P W16
    replace O := O.other W16 ne_a0_t
    replace A := A.same W16
    replace K := K.wr W16 (Or.inl (by simp))
    obtain ⟨F18, hF18⟩ : ∃ q : Nat → Int32, (oupd f sz (nar .byte p1)) = q := ⟨_, rfl⟩
    rw [hF18] at A
    subst hF18
    exact G.return_ P rfl d4_46 (by decide) (by decide) ⟨rfl, K, O, A⟩
  · exact absurd c9 (fun q => by have q2 := (own_ofn (by omega) (by omega)).mp q; omega)
abbrev room4Ga : Room := { frames := 2, cells := 1, slots := 512, locals := 33 }
def Q4Ga (Z : State) (a0 : Addr) (p1 : Int32) (t : Addr) (f : Nat → Int32) (h0 : Heap) (vv : Option Value) (hh : Heap) : Prop := ∃ b : Addr, vv = none ∧ h0.size ≤ b ∧ Keep h0 hh [a0] ∧ Ints Z hh b .byte 512 (oupd (cpy (fun _ => 0) f 0 0 256) 256 (nar .byte p1)) ∧ ObBY Z hh a0 (.ref b) (.int (Int32.ofNat 257)) ∧ Ints Z hh t .byte 256 f
theorem ef_4Ga (m : MethodId) (a0 : Addr) (p1 : Int32) : entryFrame m #[(.ref a0), (.int p1)] 2 = mkF m 0 #[.val (.ref a0), .val (.int p1)] [] := by first | (simp [entryFrame, mkF, argsToLocals, Value.category]; done) | rfl
set_option maxRecDepth 65536 in
set_option maxHeartbeats 40000000 in
theorem rm4Ga {l : Launch} {Z : State} {aw : Array Value} (hw : ∀ d ∈ tables_1, d.before aw Z = true) {n0 : Nat} (a0 : Addr) (p1 : Int32) (t : Addr) (f : Nat → Int32) (h0 : Heap) (O : ObBY Z h0 a0 (.ref t) (.int (Int32.ofNat 256))) (A : Ints Z h0 t .byte 256 f) (ne_a0_t : a0 ≠ t) (g_a0 : n0 ≤ a0) (bf : Byt 256 f) (hn0 : n0 ≤ h0.size) :
    Con l Z (⟨"com/example/labrelay/labrelay/Bytes", "write", "(B)V"⟩ : MethodName) prog_1_method_2_code 2 none room4Ga n0 #[(.ref a0), (.int p1)] h0 (Q4Ga Z a0 p1 t f h0) := by
  refine Con.body (plainFor_of_name pn_4) hn0 (fun m => ef_4Ga m a0 p1) ?_
  intro p e s m below meth c T P
  have K := Keep.refl h0 [a0]
  refine G.aloadN P d4_0 rfl rfl (pc' := 1) rfl ?_
  refine G.getF P (host := "") (Or.inl (wd hw (i := 18) rfl)) Via.refl O.2.2 d4_1 (pc' := 4) rfl ?_
  intro T P
  refine G.aloadN P d4_4 rfl rfl (pc' := 5) rfl ?_
  refine G.getF P (host := "") (Or.inl (wd hw (i := 11) rfl)) Via.refl O.2.1 d4_5 (pc' := 8) rfl ?_
  intro T P
  refine G.arraylength P A (z := (256 : Int32)) (by decide) d4_8 (pc' := 9) rfl ?_
  refine G.icmp_ne P d4_9 (by decide) (pcY := 29) (by decide) (pcN := 12) rfl (fun c9 => ?_) (fun c9 => ?_)
  · exact absurd (by decide) c9
  · refine G.aloadN P d4_12 rfl rfl (pc' := 13) rfl ?_
    refine G.aloadN P d4_13 rfl rfl (pc' := 14) rfl ?_
    refine G.getF P (host := "") (Or.inl (wd hw (i := 11) rfl)) Via.refl O.2.1 d4_14 (pc' := 17) rfl ?_
    intro T P
    refine G.aloadN P d4_17 rfl rfl (pc' := 18) rfl ?_
    refine G.getF P (host := "") (Or.inl (wd hw (i := 18) rfl)) Via.refl O.2.2 d4_18 (pc' := 21) rfl ?_
    intro T P
    refine G.iconst P d4_21 (v := (2 : Int32)) rfl (pc' := 22) rfl ?_
    refine G.imul P d4_22 (pc' := 23) rfl ?_
    refine G.top (x' := (512 : Int32)) (by decide) ?_
    refine G.callS P (wd hw (i := 43) rfl) (wd hw (i := 44) rfl) (wd hw (i := 45) rfl) (wd hw (i := 46) rfl) (by decide) (argsL := [(.ref t), (.int (512 : Int32))]) (rm8a hw t f h0 A bf P.sz) (by decide) (by decide) (cells' := 1) rfl (slots' := 512) rfl (by decide) (by decide) (lenOf pd_8 rfl) rfl (rest := [(.ref a0)]) rfl (W := 1) (Nat.le_of_eq rfl) d4_23 (pc' := 26) rfl ?_
    have old_b21 := P.sz
    rintro T h19 _ P ⟨b21, rfl, sz_b21, K20, Ob21, A'⟩
    have g_b21 : n0 ≤ b21 := Nat.le_trans old_b21 sz_b21
    have ne_a0_b21 : a0 ≠ b21 := Nat.ne_of_lt (Nat.lt_of_lt_of_le O.lt sz_b21)
    have ne_t_b21 : t ≠ b21 := Nat.ne_of_lt (Nat.lt_of_lt_of_le A.lt sz_b21)
    replace A := A'
    replace sz_b21 := Nat.le_trans K.1 sz_b21
    replace O := O.keep K20 nin0
    replace K := K.trans K20 (by simp)
    show Goes p e below s n0 room4Ga.cells room4Ga.slots (Q4Ga Z a0 p1 t f h0) (T.setTop (mkF m 26 #[.val (.ref a0), .val (.int p1)] [(.ref b21), (.ref a0)]))
    refine G.putF P (host := "") (Or.inl (wd hw (i := 11) rfl)) Via.refl O.2.1 O.1 (Or.inl (wd hw (i := 12) rfl)) (wd hw (i := 3) rfl) (ty := (.array .byte)) (by decide) rfl rfl g_a0 d4_26 (pc' := 29) rfl ?_
    intro T h23 P W22
    replace O := O.put0 hw W22
    replace A := A.other W22 (Ne.symm ne_a0_t)
    replace Ob21 := Ob21.other W22 (Ne.symm ne_a0_b21)
    replace K := K.wr W22 (Or.inl (by simp))
    refine G.aloadN P d4_29 rfl rfl (pc' := 30) rfl ?_
    refine G.getF P (host := "") (Or.inl (wd hw (i := 11) rfl)) Via.refl O.2.1 d4_30 (pc' := 33) rfl ?_
    intro T P
    refine G.aloadN P d4_33 rfl rfl (pc' := 34) rfl ?_
    refine G.dup P d4_34 rfl (pc' := 35) rfl ?_
    refine G.getF P (host := "") (Or.inl (wd hw (i := 18) rfl)) Via.refl O.2.2 d4_35 (pc' := 38) rfl ?_
    intro T P
    refine G.dupX1 P d4_38 rfl rfl (pc' := 39) rfl ?_
    refine G.iconst P d4_39 (v := (1 : Int32)) rfl (pc' := 40) rfl ?_
    refine G.iadd P d4_40 (pc' := 41) rfl ?_
    refine G.top (x' := (Int32.ofNat 257)) (by decide) ?_
    refine G.putF P (host := "") (Or.inl (wd hw (i := 18) rfl)) Via.refl O.2.2 O.1 (Or.inl (wd hw (i := 19) rfl)) (wd hw (i := 3) rfl) (ty := .int) (by decide) rfl rfl g_a0 d4_41 (pc' := 44) rfl ?_
    intro T h25 P W24
    replace O := O.put1 hw W24
    replace A := A.other W24 (Ne.symm ne_a0_t)
    replace Ob21 := Ob21.other W24 (Ne.symm ne_a0_b21)
    replace K := K.wr W24 (Or.inl (by simp))
    refine G.iloadN P d4_44 rfl (pc' := 45) rfl ?_
    refine G.bastore P Ob21 (i := 256) (own_toInt (by omega)) (by decide) g_b21 d4_45 (pc' := 46) rfl ?_
    intro T h27 P W26
    replace O := O.other W26 ne_a0_b21
    replace A := A.other W26 ne_t_b21
    replace Ob21 := Ob21.same W26
    replace K := K.wr W26 (Or.inr sz_b21)
    obtain ⟨F28, hF28⟩ : ∃ q : Nat → Int32, (oupd (cpy (fun _ => 0) f 0 0 256) 256 (nar .byte p1)) = q := ⟨_, rfl⟩
    rw [hF28] at Ob21
    subst hF28
    exact G.return_ P rfl d4_46 (by decide) (by decide) ⟨b21, rfl, sz_b21, K, Ob21, O, A⟩
abbrev room4Gb : Room := { frames := 2, cells := 1, slots := 1024, locals := 33 }
def Q4Gb (Z : State) (a0 : Addr) (p1 : Int32) (t : Addr) (f : Nat → Int32) (h0 : Heap) (vv : Option Value) (hh : Heap) : Prop := ∃ b : Addr, vv = none ∧ h0.size ≤ b ∧ Keep h0 hh [a0] ∧ Ints Z hh b .byte 1024 (oupd (cpy (fun _ => 0) f 0 0 512) 512 (nar .byte p1)) ∧ ObBY Z hh a0 (.ref b) (.int (Int32.ofNat 513)) ∧ Ints Z hh t .byte 512 f
theorem ef_4Gb (m : MethodId) (a0 : Addr) (p1 : Int32) : entryFrame m #[(.ref a0), (.int p1)] 2 = mkF m 0 #[.val (.ref a0), .val (.int p1)] [] := by first | (simp [entryFrame, mkF, argsToLocals, Value.category]; done) | rfl
set_option maxRecDepth 65536 in
set_option maxHeartbeats 40000000 in
theorem rm4Gb {l : Launch} {Z : State} {aw : Array Value} (hw : ∀ d ∈ tables_1, d.before aw Z = true) {n0 : Nat} (a0 : Addr) (p1 : Int32) (t : Addr) (f : Nat → Int32) (h0 : Heap) (O : ObBY Z h0 a0 (.ref t) (.int (Int32.ofNat 512))) (A : Ints Z h0 t .byte 512 f) (ne_a0_t : a0 ≠ t) (g_a0 : n0 ≤ a0) (bf : Byt 512 f) (hn0 : n0 ≤ h0.size) :
    Con l Z (⟨"com/example/labrelay/labrelay/Bytes", "write", "(B)V"⟩ : MethodName) prog_1_method_2_code 2 none room4Gb n0 #[(.ref a0), (.int p1)] h0 (Q4Gb Z a0 p1 t f h0) := by
  refine Con.body (plainFor_of_name pn_4) hn0 (fun m => ef_4Gb m a0 p1) ?_
  intro p e s m below meth c T P
  have K := Keep.refl h0 [a0]
  refine G.aloadN P d4_0 rfl rfl (pc' := 1) rfl ?_
  refine G.getF P (host := "") (Or.inl (wd hw (i := 18) rfl)) Via.refl O.2.2 d4_1 (pc' := 4) rfl ?_
  intro T P
  refine G.aloadN P d4_4 rfl rfl (pc' := 5) rfl ?_
  refine G.getF P (host := "") (Or.inl (wd hw (i := 11) rfl)) Via.refl O.2.1 d4_5 (pc' := 8) rfl ?_
  intro T P
  refine G.arraylength P A (z := (512 : Int32)) (by decide) d4_8 (pc' := 9) rfl ?_
  refine G.icmp_ne P d4_9 (by decide) (pcY := 29) (by decide) (pcN := 12) rfl (fun c9 => ?_) (fun c9 => ?_)
  · exact absurd (by decide) c9
  · refine G.aloadN P d4_12 rfl rfl (pc' := 13) rfl ?_
    refine G.aloadN P d4_13 rfl rfl (pc' := 14) rfl ?_
    refine G.getF P (host := "") (Or.inl (wd hw (i := 11) rfl)) Via.refl O.2.1 d4_14 (pc' := 17) rfl ?_
    intro T P
    refine G.aloadN P d4_17 rfl rfl (pc' := 18) rfl ?_
    refine G.getF P (host := "") (Or.inl (wd hw (i := 18) rfl)) Via.refl O.2.2 d4_18 (pc' := 21) rfl ?_
    intro T P
    refine G.iconst P d4_21 (v := (2 : Int32)) rfl (pc' := 22) rfl ?_
    refine G.imul P d4_22 (pc' := 23) rfl ?_
    refine G.top (x' := (1024 : Int32)) (by decide) ?_
    refine G.callS P (wd hw (i := 43) rfl) (wd hw (i := 44) rfl) (wd hw (i := 45) rfl) (wd hw (i := 46) rfl) (by decide) (argsL := [(.ref t), (.int (1024 : Int32))]) (rm8b hw t f h0 A bf P.sz) (by decide) (by decide) (cells' := 1) rfl (slots' := 1024) rfl (by decide) (by decide) (lenOf pd_8 rfl) rfl (rest := [(.ref a0)]) rfl (W := 1) (Nat.le_of_eq rfl) d4_23 (pc' := 26) rfl ?_
    have old_b31 := P.sz
    rintro T h29 _ P ⟨b31, rfl, sz_b31, K30, Ob31, A'⟩
    have g_b31 : n0 ≤ b31 := Nat.le_trans old_b31 sz_b31
    have ne_a0_b31 : a0 ≠ b31 := Nat.ne_of_lt (Nat.lt_of_lt_of_le O.lt sz_b31)
    have ne_t_b31 : t ≠ b31 := Nat.ne_of_lt (Nat.lt_of_lt_of_le A.lt sz_b31)
    replace A := A'
    replace sz_b31 := Nat.le_trans K.1 sz_b31
    replace O := O.keep K30 nin0
    replace K := K.trans K30 (by simp)
    show Goes p e below s n0 room4Gb.cells room4Gb.slots (Q4Gb Z a0 p1 t f h0) (T.setTop (mkF m 26 #[.val (.ref a0), .val (.int p1)] [(.ref b31), (.ref a0)]))
    refine G.putF P (host := "") (Or.inl (wd hw (i := 11) rfl)) Via.refl O.2.1 O.1 (Or.inl (wd hw (i := 12) rfl)) (wd hw (i := 3) rfl) (ty := (.array .byte)) (by decide) rfl rfl g_a0 d4_26 (pc' := 29) rfl ?_
    intro T h33 P W32
    replace O := O.put0 hw W32
    replace A := A.other W32 (Ne.symm ne_a0_t)
    replace Ob31 := Ob31.other W32 (Ne.symm ne_a0_b31)
    replace K := K.wr W32 (Or.inl (by simp))
    refine G.aloadN P d4_29 rfl rfl (pc' := 30) rfl ?_
    refine G.getF P (host := "") (Or.inl (wd hw (i := 11) rfl)) Via.refl O.2.1 d4_30 (pc' := 33) rfl ?_
    intro T P
    refine G.aloadN P d4_33 rfl rfl (pc' := 34) rfl ?_
    refine G.dup P d4_34 rfl (pc' := 35) rfl ?_
    refine G.getF P (host := "") (Or.inl (wd hw (i := 18) rfl)) Via.refl O.2.2 d4_35 (pc' := 38) rfl ?_
    intro T P
    refine G.dupX1 P d4_38 rfl rfl (pc' := 39) rfl ?_
    refine G.iconst P d4_39 (v := (1 : Int32)) rfl (pc' := 40) rfl ?_
    refine G.iadd P d4_40 (pc' := 41) rfl ?_
    refine G.top (x' := (Int32.ofNat 513)) (by decide) ?_
    refine G.putF P (host := "") (Or.inl (wd hw (i := 18) rfl)) Via.refl O.2.2 O.1 (Or.inl (wd hw (i := 19) rfl)) (wd hw (i := 3) rfl) (ty := .int) (by decide) rfl rfl g_a0 d4_41 (pc' := 44) rfl ?_
    intro T h35 P W34
    replace O := O.put1 hw W34
    replace A := A.other W34 (Ne.symm ne_a0_t)
    replace Ob31 := Ob31.other W34 (Ne.symm ne_a0_b31)
    replace K := K.wr W34 (Or.inl (by simp))
    refine G.iloadN P d4_44 rfl (pc' := 45) rfl ?_
    refine G.bastore P Ob31 (i := 512) (own_toInt (by omega)) (by decide) g_b31 d4_45 (pc' := 46) rfl ?_
    intro T h37 P W36
    replace O := O.other W36 ne_a0_b31
    replace A := A.other W36 ne_t_b31
    replace Ob31 := Ob31.same W36
    replace K := K.wr W36 (Or.inr sz_b31)
    obtain ⟨F38, hF38⟩ : ∃ q : Nat → Int32, (oupd (cpy (fun _ => 0) f 0 0 512) 512 (nar .byte p1)) = q := ⟨_, rfl⟩
    rw [hF38] at Ob31
    subst hF38
    exact G.return_ P rfl d4_46 (by decide) (by decide) ⟨b31, rfl, sz_b31, K, Ob31, O, A⟩
theorem d3_0 : decode prog_1_method_3_code 0 = .ok (.aload_n 0, 1) := by decide +kernel
theorem d3_1 : decode prog_1_method_3_code 1 = .ok (.getfield 13, 3) := by decide +kernel
theorem d3_4 : decode prog_1_method_3_code 4 = .ok (.iload_n 3, 1) := by decide +kernel
theorem d3_5 : decode prog_1_method_3_code 5 = .ok (.iadd, 1) := by decide +kernel
theorem d3_6 : decode prog_1_method_3_code 6 = .ok (.aload_n 0, 1) := by decide +kernel
theorem d3_7 : decode prog_1_method_3_code 7 = .ok (.getfield 7, 3) := by decide +kernel
theorem d3_10 : decode prog_1_method_3_code 10 = .ok (.arraylength, 1) := by decide +kernel
theorem d3_11 : decode prog_1_method_3_code 11 = .ok (.if_icmp .le 30, 3) := by decide +kernel
theorem d3_14 : decode prog_1_method_3_code 14 = .ok (.aload_n 0, 1) := by decide +kernel
theorem d3_15 : decode prog_1_method_3_code 15 = .ok (.aload_n 0, 1) := by decide +kernel
theorem d3_16 : decode prog_1_method_3_code 16 = .ok (.getfield 7, 3) := by decide +kernel
theorem d3_19 : decode prog_1_method_3_code 19 = .ok (.aload_n 0, 1) := by decide +kernel
theorem d3_20 : decode prog_1_method_3_code 20 = .ok (.getfield 7, 3) := by decide +kernel
theorem d3_23 : decode prog_1_method_3_code 23 = .ok (.arraylength, 1) := by decide +kernel
theorem d3_24 : decode prog_1_method_3_code 24 = .ok (.iconst 2, 1) := by decide +kernel
theorem d3_25 : decode prog_1_method_3_code 25 = .ok (.imul, 1) := by decide +kernel
theorem d3_26 : decode prog_1_method_3_code 26 = .ok (.aload_n 0, 1) := by decide +kernel
theorem d3_27 : decode prog_1_method_3_code 27 = .ok (.getfield 13, 3) := by decide +kernel
theorem d3_30 : decode prog_1_method_3_code 30 = .ok (.iload_n 3, 1) := by decide +kernel
theorem d3_31 : decode prog_1_method_3_code 31 = .ok (.iadd, 1) := by decide +kernel
theorem d3_32 : decode prog_1_method_3_code 32 = .ok (.invokestatic 23, 3) := by decide +kernel
theorem d3_35 : decode prog_1_method_3_code 35 = .ok (.invokestatic 17, 3) := by decide +kernel
theorem d3_38 : decode prog_1_method_3_code 38 = .ok (.putfield 7, 3) := by decide +kernel
theorem d3_41 : decode prog_1_method_3_code 41 = .ok (.aload_n 1, 1) := by decide +kernel
theorem d3_42 : decode prog_1_method_3_code 42 = .ok (.iload_n 2, 1) := by decide +kernel
theorem d3_43 : decode prog_1_method_3_code 43 = .ok (.aload_n 0, 1) := by decide +kernel
theorem d3_44 : decode prog_1_method_3_code 44 = .ok (.getfield 7, 3) := by decide +kernel
theorem d3_47 : decode prog_1_method_3_code 47 = .ok (.aload_n 0, 1) := by decide +kernel
theorem d3_48 : decode prog_1_method_3_code 48 = .ok (.getfield 13, 3) := by decide +kernel
theorem d3_51 : decode prog_1_method_3_code 51 = .ok (.iload_n 3, 1) := by decide +kernel
theorem d3_52 : decode prog_1_method_3_code 52 = .ok (.invokestatic 29, 3) := by decide +kernel
theorem d3_55 : decode prog_1_method_3_code 55 = .ok (.aload_n 0, 1) := by decide +kernel
theorem d3_56 : decode prog_1_method_3_code 56 = .ok (.dup, 1) := by decide +kernel
theorem d3_57 : decode prog_1_method_3_code 57 = .ok (.getfield 13, 3) := by decide +kernel
theorem d3_60 : decode prog_1_method_3_code 60 = .ok (.iload_n 3, 1) := by decide +kernel
theorem d3_61 : decode prog_1_method_3_code 61 = .ok (.iadd, 1) := by decide +kernel
theorem d3_62 : decode prog_1_method_3_code 62 = .ok (.putfield 13, 3) := by decide +kernel
theorem d3_65 : decode prog_1_method_3_code 65 = .ok (.return_, 1) := by decide +kernel
theorem pn_3 : plainName "com/example/labrelay/labrelay/Bytes" = true := by first | (simp [plainName, overriddenIn]; done) | decide +kernel
theorem pd_3 : parseMethodDescriptor "([BII)V" = some ⟨[(.array .byte), .int, .int], none⟩ := by decide +kernel
abbrev room3A : Room := { frames := 1, cells := 0, slots := 0, locals := 18 }
def Q3A (Z : State) (a0 : Addr) (a1 : Addr) (t : Addr) (f : Nat → Int32) (k : Nat) (h0 : Heap) (vv : Option Value) (hh : Heap) : Prop := vv = none ∧ Keep h0 hh [a0, t] ∧ ObBY Z hh a0 (.ref t) (.int (Int32.ofNat k)) ∧ Ints Z hh t .byte 256 (cpy (fun _ => 0) f 0 0 k) ∧ Ints Z hh a1 .byte 513 f
theorem ef_3A (m : MethodId) (a0 : Addr) (a1 : Addr) (p2 : Int32) (p3 : Int32) : entryFrame m #[(.ref a0), (.ref a1), (.int p2), (.int p3)] 4 = mkF m 0 #[.val (.ref a0), .val (.ref a1), .val (.int p2), .val (.int p3)] [] := by first | (simp [entryFrame, mkF, argsToLocals, Value.category]; done) | rfl
set_option maxRecDepth 65536 in
set_option maxHeartbeats 40000000 in
theorem rm3A {l : Launch} {Z : State} {aw : Array Value} (hw : ∀ d ∈ tables_1, d.before aw Z = true) {n0 : Nat} (a0 : Addr) (a1 : Addr) (t : Addr) (f : Nat → Int32) (k : Nat) (h0 : Heap) (O : ObBY Z h0 a0 (.ref t) (.int (0 : Int32))) (AT : Ints Z h0 t .byte 256 (fun _ => 0)) (AF : Ints Z h0 a1 .byte 513 f) (ne_a0_t : a0 ≠ t) (ne_a0_a1 : a0 ≠ a1) (ne_t_a1 : t ≠ a1) (g_a0 : n0 ≤ a0) (g_t : n0 ≤ t) (hk : k ≤ 256) (bf : Byt 513 f) (hn0 : n0 ≤ h0.size) :
    Con l Z (⟨"com/example/labrelay/labrelay/Bytes", "write", "([BII)V"⟩ : MethodName) prog_1_method_3_code 4 none room3A n0 #[(.ref a0), (.ref a1), (.int (0 : Int32)), (.int (Int32.ofNat k))] h0 (Q3A Z a0 a1 t f k h0) := by
  refine Con.body (plainFor_of_name pn_3) hn0 (fun m => ef_3A m a0 a1 (0 : Int32) (Int32.ofNat k)) ?_
  intro p e s m below meth c T P
  have K := Keep.refl h0 [a0, t]
  refine G.aloadN P d3_0 rfl rfl (pc' := 1) rfl ?_
  refine G.getF P (host := "") (Or.inl (wd hw (i := 18) rfl)) Via.refl O.2.2 d3_1 (pc' := 4) rfl ?_
  intro T P
  refine G.iloadN P d3_4 rfl (pc' := 5) rfl ?_
  refine G.iadd P d3_5 (pc' := 6) rfl ?_
  refine G.top (x' := (Int32.ofNat k)) (Int32.zero_add _) ?_
  refine G.aloadN P d3_6 rfl rfl (pc' := 7) rfl ?_
  refine G.getF P (host := "") (Or.inl (wd hw (i := 11) rfl)) Via.refl O.2.1 d3_7 (pc' := 10) rfl ?_
  intro T P
  refine G.arraylength P AT (z := (256 : Int32)) (by decide) d3_10 (pc' := 11) rfl ?_
  refine G.icmp_le P d3_11 (by decide) (pcY := 41) (by decide) (pcN := 14) rfl (fun c11 => ?_) (fun c11 => ?_)
  · refine G.aloadN P d3_41 rfl rfl (pc' := 42) rfl ?_
    refine G.iloadN P d3_42 rfl (pc' := 43) rfl ?_
    refine G.aloadN P d3_43 rfl rfl (pc' := 44) rfl ?_
    refine G.getF P (host := "") (Or.inl (wd hw (i := 11) rfl)) Via.refl O.2.1 d3_44 (pc' := 47) rfl ?_
    intro T P
    refine G.aloadN P d3_47 rfl rfl (pc' := 48) rfl ?_
    refine G.getF P (host := "") (Or.inl (wd hw (i := 18) rfl)) Via.refl O.2.2 d3_48 (pc' := 51) rfl ?_
    intro T P
    refine G.iloadN P d3_51 rfl (pc' := 52) rfl ?_
    refine own_copy P (wd hw (i := 20) rfl) (wd hw (i := 23) rfl) (wd hw (i := 21) rfl) (wd hw (i := 22) rfl) AF AT bf own_z0 (sp := 0) (dp := 0) (nn := k) (by decide) (by decide) (own_toInt (by omega)) (by omega) (by omega) g_t (by decide) (W := 0) (Nat.le_of_eq rfl) (by decide) rfl d3_52 (pc' := 55) rfl ?_
    intro T h39 P K40 BK40
    replace O := O.keep K40 (ninS ne_a0_t nin0)
    replace AF := AF.keep K40 (ninS (Ne.symm ne_t_a1) nin0)
    replace AT := BK40
    replace K := K.trans K40 (fun x hx => by cases List.mem_singleton.mp hx; exact Or.inl (by simp))
    refine G.aloadN P d3_55 rfl rfl (pc' := 56) rfl ?_
    refine G.dup P d3_56 rfl (pc' := 57) rfl ?_
    refine G.getF P (host := "") (Or.inl (wd hw (i := 18) rfl)) Via.refl O.2.2 d3_57 (pc' := 60) rfl ?_
    intro T P
    refine G.iloadN P d3_60 rfl (pc' := 61) rfl ?_
    refine G.iadd P d3_61 (pc' := 62) rfl ?_
    refine G.top (x' := (Int32.ofNat k)) (Int32.zero_add _) ?_
    refine G.putF P (host := "") (Or.inl (wd hw (i := 18) rfl)) Via.refl O.2.2 O.1 (Or.inl (wd hw (i := 19) rfl)) (wd hw (i := 3) rfl) (ty := .int) (by decide) rfl rfl g_a0 d3_62 (pc' := 65) rfl ?_
    intro T h42 P W41
    replace O := O.put1 hw W41
    replace AT := AT.other W41 (Ne.symm ne_a0_t)
    replace AF := AF.other W41 (Ne.symm ne_a0_a1)
    replace K := K.wr W41 (Or.inl (by simp))
    exact G.return_ P rfl d3_65 (by decide) (by decide) ⟨rfl, K, O, AT, AF⟩
  · exact absurd c11 (fun q => by have q2 := (own_lt256 (by omega)).mp q; omega)
abbrev room3B : Room := { frames := 2, cells := 1, slots := 512, locals := 33 }
def Q3B (Z : State) (a0 : Addr) (a1 : Addr) (t : Addr) (f : Nat → Int32) (k : Nat) (h0 : Heap) (vv : Option Value) (hh : Heap) : Prop := ∃ b : Addr, vv = none ∧ h0.size ≤ b ∧ Keep h0 hh [a0] ∧ Ints Z hh b .byte 512 (cpy (cpy (fun _ => 0) (fun _ => 0) 0 0 256) f 0 0 k) ∧ ObBY Z hh a0 (.ref b) (.int (Int32.ofNat k)) ∧ Ints Z hh t .byte 256 (fun _ => 0) ∧ Ints Z hh a1 .byte 513 f
theorem ef_3B (m : MethodId) (a0 : Addr) (a1 : Addr) (p2 : Int32) (p3 : Int32) : entryFrame m #[(.ref a0), (.ref a1), (.int p2), (.int p3)] 4 = mkF m 0 #[.val (.ref a0), .val (.ref a1), .val (.int p2), .val (.int p3)] [] := by first | (simp [entryFrame, mkF, argsToLocals, Value.category]; done) | rfl
set_option maxRecDepth 65536 in
set_option maxHeartbeats 40000000 in
theorem rm3B {l : Launch} {Z : State} {aw : Array Value} (hw : ∀ d ∈ tables_1, d.before aw Z = true) {n0 : Nat} (a0 : Addr) (a1 : Addr) (t : Addr) (f : Nat → Int32) (k : Nat) (h0 : Heap) (O : ObBY Z h0 a0 (.ref t) (.int (0 : Int32))) (AT : Ints Z h0 t .byte 256 (fun _ => 0)) (AF : Ints Z h0 a1 .byte 513 f) (ne_a0_t : a0 ≠ t) (ne_a0_a1 : a0 ≠ a1) (ne_t_a1 : t ≠ a1) (g_a0 : n0 ≤ a0) (hk : 256 < k) (hk2 : k ≤ 512) (bf : Byt 513 f) (hn0 : n0 ≤ h0.size) :
    Con l Z (⟨"com/example/labrelay/labrelay/Bytes", "write", "([BII)V"⟩ : MethodName) prog_1_method_3_code 4 none room3B n0 #[(.ref a0), (.ref a1), (.int (0 : Int32)), (.int (Int32.ofNat k))] h0 (Q3B Z a0 a1 t f k h0) := by
  refine Con.body (plainFor_of_name pn_3) hn0 (fun m => ef_3B m a0 a1 (0 : Int32) (Int32.ofNat k)) ?_
  intro p e s m below meth c T P
  have K := Keep.refl h0 [a0]
  refine G.aloadN P d3_0 rfl rfl (pc' := 1) rfl ?_
  refine G.getF P (host := "") (Or.inl (wd hw (i := 18) rfl)) Via.refl O.2.2 d3_1 (pc' := 4) rfl ?_
  intro T P
  refine G.iloadN P d3_4 rfl (pc' := 5) rfl ?_
  refine G.iadd P d3_5 (pc' := 6) rfl ?_
  refine G.top (x' := (Int32.ofNat k)) (Int32.zero_add _) ?_
  refine G.aloadN P d3_6 rfl rfl (pc' := 7) rfl ?_
  refine G.getF P (host := "") (Or.inl (wd hw (i := 11) rfl)) Via.refl O.2.1 d3_7 (pc' := 10) rfl ?_
  intro T P
  refine G.arraylength P AT (z := (256 : Int32)) (by decide) d3_10 (pc' := 11) rfl ?_
  refine G.icmp_le P d3_11 (by decide) (pcY := 41) (by decide) (pcN := 14) rfl (fun c11 => ?_) (fun c11 => ?_)
  · exact absurd ((own_lt256 (by omega)).mpr hk) c11
  · refine G.aloadN P d3_14 rfl rfl (pc' := 15) rfl ?_
    refine G.aloadN P d3_15 rfl rfl (pc' := 16) rfl ?_
    refine G.getF P (host := "") (Or.inl (wd hw (i := 11) rfl)) Via.refl O.2.1 d3_16 (pc' := 19) rfl ?_
    intro T P
    refine G.aloadN P d3_19 rfl rfl (pc' := 20) rfl ?_
    refine G.getF P (host := "") (Or.inl (wd hw (i := 11) rfl)) Via.refl O.2.1 d3_20 (pc' := 23) rfl ?_
    intro T P
    refine G.arraylength P AT (z := (256 : Int32)) (by decide) d3_23 (pc' := 24) rfl ?_
    refine G.iconst P d3_24 (v := (2 : Int32)) rfl (pc' := 25) rfl ?_
    refine G.imul P d3_25 (pc' := 26) rfl ?_
    refine G.aloadN P d3_26 rfl rfl (pc' := 27) rfl ?_
    refine G.getF P (host := "") (Or.inl (wd hw (i := 18) rfl)) Via.refl O.2.2 d3_27 (pc' := 30) rfl ?_
    intro T P
    refine G.iloadN P d3_30 rfl (pc' := 31) rfl ?_
    refine G.iadd P d3_31 (pc' := 32) rfl ?_
    refine G.top (x' := (Int32.ofNat k)) (Int32.zero_add _) ?_
    refine G.callS P (wd hw (i := 39) rfl) (wd hw (i := 40) rfl) (wd hw (i := 41) rfl) (wd hw (i := 42) rfl) (by decide) (argsL := [(.int ((256 : Int32) * (2 : Int32))), (.int (Int32.ofNat k))]) (rm7 hw ((256 : Int32) * (2 : Int32)) (Int32.ofNat k) h0 P.sz) (by decide) (by decide) (cells' := 0) rfl (slots' := 0) rfl (by decide) (by decide) (lenOf pd_7 rfl) rfl (rest := [(.ref t), (.ref a0)]) rfl (W := 2) (Nat.le_of_eq rfl) d3_32 (pc' := 35) rfl ?_
    rintro T _ _ P ⟨rfl, rfl⟩
    show Goes p e below s n0 room3B.cells room3B.slots (Q3B Z a0 a1 t f k h0) (T.setTop (mkF m 35 #[.val (.ref a0), .val (.ref a1), .val (.int (0 : Int32)), .val (.int (Int32.ofNat k))] [(.int (f7 ((256 : Int32) * (2 : Int32)) (Int32.ofNat k))), (.ref t), (.ref a0)]))
    generalize hr43 : (f7 ((256 : Int32) * (2 : Int32)) (Int32.ofNat k)) = r43
    refine G.top (x' := (512 : Int32)) (by rw [← hr43]; exact own_mx hk2) ?_
    refine G.callS P (wd hw (i := 43) rfl) (wd hw (i := 44) rfl) (wd hw (i := 45) rfl) (wd hw (i := 46) rfl) (by decide) (argsL := [(.ref t), (.int (512 : Int32))]) (rm8a hw t (fun _ => 0) h0 AT own_z0 P.sz) (by decide) (by decide) (cells' := 1) rfl (slots' := 512) rfl (by decide) (by decide) (lenOf pd_8 rfl) rfl (rest := [(.ref a0)]) rfl (W := 1) (Nat.le_of_eq rfl) d3_35 (pc' := 38) rfl ?_
    have old_b46 := P.sz
    rintro T h44 _ P ⟨b46, rfl, sz_b46, K45, Ob46, AT'⟩
    have g_b46 : n0 ≤ b46 := Nat.le_trans old_b46 sz_b46
    have ne_a0_b46 : a0 ≠ b46 := Nat.ne_of_lt (Nat.lt_of_lt_of_le O.lt sz_b46)
    have ne_t_b46 : t ≠ b46 := Nat.ne_of_lt (Nat.lt_of_lt_of_le AT.lt sz_b46)
    have ne_a1_b46 : a1 ≠ b46 := Nat.ne_of_lt (Nat.lt_of_lt_of_le AF.lt sz_b46)
    replace AT := AT'
    replace sz_b46 := Nat.le_trans K.1 sz_b46
    replace O := O.keep K45 nin0
    replace AF := AF.keep K45 nin0
    replace K := K.trans K45 (by simp)
    show Goes p e below s n0 room3B.cells room3B.slots (Q3B Z a0 a1 t f k h0) (T.setTop (mkF m 38 #[.val (.ref a0), .val (.ref a1), .val (.int (0 : Int32)), .val (.int (Int32.ofNat k))] [(.ref b46), (.ref a0)]))
    refine G.putF P (host := "") (Or.inl (wd hw (i := 11) rfl)) Via.refl O.2.1 O.1 (Or.inl (wd hw (i := 12) rfl)) (wd hw (i := 3) rfl) (ty := (.array .byte)) (by decide) rfl rfl g_a0 d3_38 (pc' := 41) rfl ?_
    intro T h48 P W47
    replace O := O.put0 hw W47
    replace AT := AT.other W47 (Ne.symm ne_a0_t)
    replace AF := AF.other W47 (Ne.symm ne_a0_a1)
    replace Ob46 := Ob46.other W47 (Ne.symm ne_a0_b46)
    replace K := K.wr W47 (Or.inl (by simp))
    refine G.aloadN P d3_41 rfl rfl (pc' := 42) rfl ?_
    refine G.iloadN P d3_42 rfl (pc' := 43) rfl ?_
    refine G.aloadN P d3_43 rfl rfl (pc' := 44) rfl ?_
    refine G.getF P (host := "") (Or.inl (wd hw (i := 11) rfl)) Via.refl O.2.1 d3_44 (pc' := 47) rfl ?_
    intro T P
    refine G.aloadN P d3_47 rfl rfl (pc' := 48) rfl ?_
    refine G.getF P (host := "") (Or.inl (wd hw (i := 18) rfl)) Via.refl O.2.2 d3_48 (pc' := 51) rfl ?_
    intro T P
    refine G.iloadN P d3_51 rfl (pc' := 52) rfl ?_
    refine own_copy P (wd hw (i := 20) rfl) (wd hw (i := 23) rfl) (wd hw (i := 21) rfl) (wd hw (i := 22) rfl) AF Ob46 bf (own_bytc own_z0 (own_z0 (n := 256)) (by omega)) (sp := 0) (dp := 0) (nn := k) (by decide) (by decide) (own_toInt (by omega)) (by omega) (by omega) g_b46 (by decide) (W := 0) (Nat.le_of_eq rfl) (by decide) rfl d3_52 (pc' := 55) rfl ?_
    intro T h49 P K50 BK50
    replace O := O.keep K50 (ninS ne_a0_b46 nin0)
    replace AT := AT.keep K50 (ninS ne_t_b46 nin0)
    replace AF := AF.keep K50 (ninS ne_a1_b46 nin0)
    replace Ob46 := BK50
    replace K := K.trans K50 (fun x hx => by cases List.mem_singleton.mp hx; exact Or.inr sz_b46)
    refine G.aloadN P d3_55 rfl rfl (pc' := 56) rfl ?_
    refine G.dup P d3_56 rfl (pc' := 57) rfl ?_
    refine G.getF P (host := "") (Or.inl (wd hw (i := 18) rfl)) Via.refl O.2.2 d3_57 (pc' := 60) rfl ?_
    intro T P
    refine G.iloadN P d3_60 rfl (pc' := 61) rfl ?_
    refine G.iadd P d3_61 (pc' := 62) rfl ?_
    refine G.top (x' := (Int32.ofNat k)) (Int32.zero_add _) ?_
    refine G.putF P (host := "") (Or.inl (wd hw (i := 18) rfl)) Via.refl O.2.2 O.1 (Or.inl (wd hw (i := 19) rfl)) (wd hw (i := 3) rfl) (ty := .int) (by decide) rfl rfl g_a0 d3_62 (pc' := 65) rfl ?_
    intro T h52 P W51
    replace O := O.put1 hw W51
    replace AT := AT.other W51 (Ne.symm ne_a0_t)
    replace AF := AF.other W51 (Ne.symm ne_a0_a1)
    replace Ob46 := Ob46.other W51 (Ne.symm ne_a0_b46)
    replace K := K.wr W51 (Or.inl (by simp))
    subst hr43
    exact G.return_ P rfl d3_65 (by decide) (by decide) ⟨b46, rfl, sz_b46, K, Ob46, O, AT, AF⟩
theorem d5_0 : decode prog_1_method_4_code 0 = .ok (.aload_n 0, 1) := by decide +kernel
theorem d5_1 : decode prog_1_method_4_code 1 = .ok (.getfield 13, 3) := by decide +kernel
theorem d5_4 : decode prog_1_method_4_code 4 = .ok (.ireturn, 1) := by decide +kernel
theorem pn_5 : plainName "com/example/labrelay/labrelay/Bytes" = true := by first | (simp [plainName, overriddenIn]; done) | decide +kernel
theorem pd_5 : parseMethodDescriptor "()I" = some ⟨[], some .int⟩ := by decide +kernel
abbrev room5 : Room := { frames := 0, cells := 0, slots := 0, locals := 0 }
def Q5 (Z : State) (a0 : Addr) (t : Addr) (z : Int32) (h0 : Heap) (vv : Option Value) (hh : Heap) : Prop := vv = some (.int z) ∧ h0 = hh
theorem ef_5 (m : MethodId) (a0 : Addr) : entryFrame m #[(.ref a0)] 1 = mkF m 0 #[.val (.ref a0)] [] := by first | (simp [entryFrame, mkF, argsToLocals, Value.category]; done) | rfl
set_option maxRecDepth 65536 in
set_option maxHeartbeats 40000000 in
theorem rm5 {l : Launch} {Z : State} {aw : Array Value} (hw : ∀ d ∈ tables_1, d.before aw Z = true) {n0 : Nat} (a0 : Addr) (t : Addr) (z : Int32) (h0 : Heap) (O : ObBY Z h0 a0 (.ref t) (.int z)) (hn0 : n0 ≤ h0.size) :
    Con l Z (⟨"com/example/labrelay/labrelay/Bytes", "size", "()I"⟩ : MethodName) prog_1_method_4_code 1 (some .int) room5 n0 #[(.ref a0)] h0 (Q5 Z a0 t z h0) := by
  refine Con.body (plainFor_of_name pn_5) hn0 (fun m => ef_5 m a0) ?_
  intro p e s m below meth c T P
  refine G.aloadN P d5_0 rfl rfl (pc' := 1) rfl ?_
  refine G.getF P (host := "") (Or.inl (wd hw (i := 18) rfl)) Via.refl O.2.2 d5_1 (pc' := 4) rfl ?_
  intro T P
  exact G.ireturn P rfl d5_4 (by decide) (by decide) ⟨congrArg (fun z => some (Value.int z)) (rfl), rfl⟩
theorem d6_0 : decode prog_1_method_5_code 0 = .ok (.aload_n 0, 1) := by decide +kernel
theorem d6_1 : decode prog_1_method_5_code 1 = .ok (.getfield 7, 3) := by decide +kernel
theorem d6_4 : decode prog_1_method_5_code 4 = .ok (.iload_n 1, 1) := by decide +kernel
theorem d6_5 : decode prog_1_method_5_code 5 = .ok (.baload, 1) := by decide +kernel
theorem d6_6 : decode prog_1_method_5_code 6 = .ok (.ireturn, 1) := by decide +kernel
theorem pn_6 : plainName "com/example/labrelay/labrelay/Bytes" = true := by first | (simp [plainName, overriddenIn]; done) | decide +kernel
theorem pd_6 : parseMethodDescriptor "(I)B" = some ⟨[.int], some .byte⟩ := by decide +kernel
abbrev room6 : Room := { frames := 0, cells := 0, slots := 0, locals := 0 }
def Q6 (Z : State) (a0 : Addr) (t : Addr) (z : Int32) (f : Nat → Int32) (n : Nat) (i : Nat) (h0 : Heap) (vv : Option Value) (hh : Heap) : Prop := vv = some (.int (nar .byte (f i))) ∧ h0 = hh
theorem ef_6 (m : MethodId) (a0 : Addr) (p1 : Int32) : entryFrame m #[(.ref a0), (.int p1)] 2 = mkF m 0 #[.val (.ref a0), .val (.int p1)] [] := by first | (simp [entryFrame, mkF, argsToLocals, Value.category]; done) | rfl
set_option maxRecDepth 65536 in
set_option maxHeartbeats 40000000 in
theorem rm6 {l : Launch} {Z : State} {aw : Array Value} (hw : ∀ d ∈ tables_1, d.before aw Z = true) {n0 : Nat} (a0 : Addr) (t : Addr) (z : Int32) (f : Nat → Int32) (n : Nat) (i : Nat) (h0 : Heap) (O : ObBY Z h0 a0 (.ref t) (.int z)) (A : Ints Z h0 t .byte n f) (ne_a0_t : a0 ≠ t) (hi : i < n) (hn : n < 100000) (hn0 : n0 ≤ h0.size) :
    Con l Z (⟨"com/example/labrelay/labrelay/Bytes", "at", "(I)B"⟩ : MethodName) prog_1_method_5_code 2 (some .byte) room6 n0 #[(.ref a0), (.int (Int32.ofNat i))] h0 (Q6 Z a0 t z f n i h0) := by
  refine Con.body (plainFor_of_name pn_6) hn0 (fun m => ef_6 m a0 (Int32.ofNat i)) ?_
  intro p e s m below meth c T P
  refine G.aloadN P d6_0 rfl rfl (pc' := 1) rfl ?_
  refine G.getF P (host := "") (Or.inl (wd hw (i := 11) rfl)) Via.refl O.2.1 d6_1 (pc' := 4) rfl ?_
  intro T P
  refine G.iloadN P d6_4 rfl (pc' := 5) rfl ?_
  refine G.baload P A (i := i) (own_toInt (by omega)) hi d6_5 (pc' := 6) rfl ?_
  generalize hx53 : (f i) = x53
  exact G.ireturnN P (t := .byte) rfl (by simp) rfl d6_6 (by decide) (by decide) ⟨congrArg (fun z => some (Value.int z)) (congrArg (nar .byte) hx53.symm), rfl⟩
theorem pn_0 : plainName "com/example/labrelay/labrelay/BytesWritePinLaw" = true := by first | (simp [plainName, overriddenIn]; done) | decide +kernel
theorem pd_0 : parseMethodDescriptor "(IIIII)Z" = some ⟨[.int, .int, .int, .int, .int], some .boolean⟩ := by decide +kernel
def Q0 (Z : State) (p0 : Int32) (p1 : Int32) (p2 : Int32) (p3 : Int32) (p4 : Int32) (h0 : Heap) (vv : Option Value) (hh : Heap) : Prop := vv = some (.int 1) ∧ True
theorem ef_0 (m : MethodId) (p0 : Int32) (p1 : Int32) (p2 : Int32) (p3 : Int32) (p4 : Int32) : entryFrame m #[(.int p0), (.int p1), (.int p2), (.int p3), (.int p4)] maxLocals = mkF m 0 #[.val (.int p0), .val (.int p1), .val (.int p2), .val (.int p3), .val (.int p4), .unset, .unset, .unset, .unset, .unset] [] := by first | (simp [entryFrame, mkF, argsToLocals, Value.category, maxLocals]; done) | rfl
set_option maxRecDepth 65536 in
set_option maxHeartbeats 40000000 in
theorem rm0 {l : Launch} {Z : State} {aw : Array Value} (hw : ∀ d ∈ tables_1, d.before aw Z = true) {n0 : Nat} (p0 : Int32) (p1 : Int32) (p2 : Int32) (p3 : Int32) (p4 : Int32) (h0 : Heap) (hn0 : n0 ≤ h0.size) :
    Con l Z x code maxLocals ret room_1 n0 #[(.int p0), (.int p1), (.int p2), (.int p3), (.int p4)] h0 (Q0 Z p0 p1 p2 p3 p4 h0) := by
  refine Con.body (plainFor_of_name pn_0) hn0 (fun m => ef_0 m p0 p1 p2 p3 p4) ?_
  intro p e s m below meth c T P
  refine G.iloadN P at_0 rfl (pc' := 1) rfl ?_
  refine G.ldcI P (wd hw (i := 0) rfl) at_1 (pc' := 3) rfl ?_
  refine G.iand P at_3 (pc' := 4) rfl ?_
  refine G.sipush P at_4 (v := (513 : Int32)) rfl (pc' := 7) rfl ?_
  refine G.irem P at_7 (by decide) (pc' := 8) rfl ?_
  obtain ⟨x54, hx54⟩ : ∃ z : Int32, ((p0 &&& (2147483647 : Int32)) % (513 : Int32)) = z := ⟨_, rfl⟩
  refine G.istore P at_8 hx54 (L' := #[.val (.int p0), .val (.int p1), .val (.int p2), .val (.int p3), .val (.int p4), .val (.int x54), .unset, .unset, .unset, .unset]) rfl (pc' := 10) rfl ?_
  obtain ⟨k, hk, ek⟩ := own_k _ _ hx54
  clear hx54
  subst ek
  rcases own_cases k hk with rfl | ⟨hk1, hk2⟩ | rfl | rfl | ⟨hk1, hk2⟩ | rfl | rfl
  · have hk0 := hk
    refine G.iloadN P at_10 rfl (pc' := 11) rfl ?_
    refine G.i2b P at_11 (pc' := 12) rfl ?_
    obtain ⟨x55, hx55⟩ : ∃ z : Int32, (p1.toInt8.toInt32) = z := ⟨_, rfl⟩
    refine G.istore P at_12 hx55 (L' := #[.val (.int p0), .val (.int p1), .val (.int p2), .val (.int p3), .val (.int p4), .val (.int (Int32.ofNat 0)), .val (.int x55), .unset, .unset, .unset]) rfl (pc' := 14) rfl ?_
    refine G.iloadN P at_14 rfl (pc' := 15) rfl ?_
    refine G.i2b P at_15 (pc' := 16) rfl ?_
    obtain ⟨x56, hx56⟩ : ∃ z : Int32, (p2.toInt8.toInt32) = z := ⟨_, rfl⟩
    refine G.istore P at_16 hx56 (L' := #[.val (.int p0), .val (.int p1), .val (.int p2), .val (.int p3), .val (.int p4), .val (.int (Int32.ofNat 0)), .val (.int x55), .val (.int x56), .unset, .unset]) rfl (pc' := 18) rfl ?_
    refine G.sipush P at_18 (v := (513 : Int32)) rfl (pc' := 21) rfl ?_
    refine G.newarray P (wd hw (i := 1) rfl) rfl (N := 513) (by decide) (cap := 513) (Nat.le_refl _) (by decide) at_21 (cells' := 1) rfl (slots' := 513) rfl (by decide) (by decide) (pc' := 23) rfl ?_
    intro T h57 b57 hb57 g_b57 P E57 A57
    replace A57 : Ints Z h57 b57 .byte 513 (fun _ => 0) := A57
    refine G.astore P at_23 rfl (L' := #[.val (.int p0), .val (.int p1), .val (.int p2), .val (.int p3), .val (.int p4), .val (.int (Int32.ofNat 0)), .val (.int x55), .val (.int x56), .val (.ref b57), .unset]) rfl (pc' := 25) rfl ?_
    refine G.aload P at_25 rfl rfl (pc' := 27) rfl ?_
    refine G.iconst P at_27 (v := (0 : Int32)) rfl (pc' := 28) rfl ?_
    refine G.iload P at_28 rfl (pc' := 30) rfl ?_
    refine G.i2b P at_30 (pc' := 31) rfl ?_
    refine G.bastore P A57 (i := 0) (by decide) (by decide) g_b57 at_31 (pc' := 32) rfl ?_
    intro T h59 P W58
    replace A57 := A57.same W58
    obtain ⟨F60, hF60⟩ : ∃ q : Nat → Int32, (oupd (fun _ => 0) 0 (nar .byte (p4.toInt8.toInt32))) = q := ⟨_, rfl⟩
    rw [hF60] at A57
    refine G.iload P at_32 rfl (pc' := 34) rfl ?_
    refine G.if_le P at_34 (by decide) (pcY := 46) (by decide) (pcN := 37) rfl (fun c34 => ?_) (fun c34 => ?_)
    · have hB : Byt 513 F60 := (by rw [← hF60]; exact own_bytu own_z0)
      refine G.new P (wd hw (i := 2) rfl) (wd hw (i := 3) rfl) (wd hw (i := 4) rfl) at_46 (cells' := 2) rfl (slots' := 515) rfl (by decide) (by decide) (pc' := 49) rfl ?_
      intro T h61 b61 hb61 g_b61 P E61 X61 D61
      have ne_b57_b61 : b57 ≠ b61 := by rw [hb61]; exact Nat.ne_of_lt A57.lt
      replace A57 := A57.ext E61
      have O61 := ObBY.new hw X61 @D61
      refine G.dup P at_49 rfl (pc' := 50) rfl ?_
      refine G.callI P rfl (wd hw (i := 5) rfl) (wd hw (i := 6) rfl) (wd hw (i := 4) rfl) (wd hw (i := 7) rfl) (by decide) (argsL := []) (a := b61) (rm1 hw b61 h61 O61 g_b61 P.sz) (by decide) (by decide) (cells' := 3) rfl (slots' := 771) rfl (by decide) (by decide) (lenOf pd_1 rfl) rfl (rest := [(.ref b61)]) rfl (W := 1) (Nat.le_of_eq rfl) at_50 (pc' := 53) rfl ?_
      have old_b64 := P.sz
      rintro T h62 _ P ⟨b64, rfl, sz_b64, K63, Ob64, O61'⟩
      have g_b64 : n0 ≤ b64 := Nat.le_trans old_b64 sz_b64
      have ne_b57_b64 : b57 ≠ b64 := Nat.ne_of_lt (Nat.lt_of_lt_of_le A57.lt sz_b64)
      have ne_b61_b64 : b61 ≠ b64 := Nat.ne_of_lt (Nat.lt_of_lt_of_le O61.lt sz_b64)
      replace O61 := O61'
      replace A57 := A57.keep K63 (ninS ne_b57_b61 nin0)
      show Goes p e below s n0 room_1.cells room_1.slots (Q0 Z p0 p1 p2 p3 p4 h0) (T.setTop (mkF m 53 #[.val (.int p0), .val (.int p1), .val (.int p2), .val (.int p3), .val (.int p4), .val (.int (Int32.ofNat 0)), .val (.int x55), .val (.int x56), .val (.ref b57), .unset] [(.ref b61)]))
      refine G.astore P at_53 rfl (L' := #[.val (.int p0), .val (.int p1), .val (.int p2), .val (.int p3), .val (.int p4), .val (.int (Int32.ofNat 0)), .val (.int x55), .val (.int x56), .val (.ref b57), .val (.ref b61)]) rfl (pc' := 55) rfl ?_
      refine G.aload P at_55 rfl rfl (pc' := 57) rfl ?_
      refine G.aload P at_57 rfl rfl (pc' := 59) rfl ?_
      refine G.iconst P at_59 (v := (0 : Int32)) rfl (pc' := 60) rfl ?_
      refine G.iload P at_60 rfl (pc' := 62) rfl ?_
      refine G.callV P (wd hw (i := 13) rfl) (wd hw (i := 14) rfl) (wd hw (i := 16) rfl) (wd hw (i := 15) rfl) (wd hw (i := 4) rfl) (wd hw (i := 17) rfl) (by decide) O61.1 (argsL := [(.ref b57), (.int (0 : Int32)), (.int (Int32.ofNat 0))]) (a := b61) (rm3A hw b61 b57 b64 F60 0 h62 O61 Ob64 A57 ne_b61_b64 (Ne.symm ne_b57_b61) (Ne.symm ne_b57_b64) g_b61 g_b64 (by omega) hB P.sz) (by decide) (by decide) (cells' := 3) rfl (slots' := 771) rfl (by decide) (by decide) (lenOf pd_3 rfl) rfl (rest := []) rfl (W := 0) (Nat.le_of_eq rfl) at_62 (pc' := 65) rfl ?_
      clear O61
      clear Ob64
      clear A57
      rintro T h65 _ P ⟨rfl, K66, O61, Ob64, A57⟩
      show Goes p e below s n0 room_1.cells room_1.slots (Q0 Z p0 p1 p2 p3 p4 h0) (T.setTop (mkF m 65 #[.val (.int p0), .val (.int p1), .val (.int p2), .val (.int p3), .val (.int p4), .val (.int (Int32.ofNat 0)), .val (.int x55), .val (.int x56), .val (.ref b57), .val (.ref b61)] []))
      refine G.aload P at_65 rfl rfl (pc' := 67) rfl ?_
      refine G.iload P at_67 rfl (pc' := 69) rfl ?_
      refine G.callV P (wd hw (i := 24) rfl) (wd hw (i := 25) rfl) (wd hw (i := 27) rfl) (wd hw (i := 26) rfl) (wd hw (i := 4) rfl) (wd hw (i := 28) rfl) (by decide) O61.1 (argsL := [(.int x55)]) (a := b61) (rm4N hw b61 x55 b64 (cpy (fun _ => 0) F60 0 0 0) 0 256 h65 O61 Ob64 ne_b61_b64 g_b61 g_b64 (by omega) (by omega) P.sz) (by decide) (by decide) (cells' := 3) rfl (slots' := 771) rfl (by decide) (by decide) (lenOf pd_4 rfl) rfl (rest := []) rfl (W := 0) (Nat.le_of_eq rfl) at_69 (pc' := 72) rfl ?_
      clear O61
      clear Ob64
      rintro T h67 _ P ⟨rfl, K68, O61, Ob64⟩
      replace A57 := A57.keep K68 (ninS ne_b57_b61 (ninS ne_b57_b64 nin0))
      show Goes p e below s n0 room_1.cells room_1.slots (Q0 Z p0 p1 p2 p3 p4 h0) (T.setTop (mkF m 72 #[.val (.int p0), .val (.int p1), .val (.int p2), .val (.int p3), .val (.int p4), .val (.int (Int32.ofNat 0)), .val (.int x55), .val (.int x56), .val (.ref b57), .val (.ref b61)] []))
      refine G.aload P at_72 rfl rfl (pc' := 74) rfl ?_
      refine G.iload P at_74 rfl (pc' := 76) rfl ?_
      refine G.callV P (wd hw (i := 24) rfl) (wd hw (i := 25) rfl) (wd hw (i := 27) rfl) (wd hw (i := 26) rfl) (wd hw (i := 4) rfl) (wd hw (i := 28) rfl) (by decide) O61.1 (argsL := [(.int x56)]) (a := b61) (rm4N hw b61 x56 b64 (oupd (cpy (fun _ => 0) F60 0 0 0) 0 (nar .byte x55)) (0 + 1) 256 h67 O61 Ob64 ne_b61_b64 g_b61 g_b64 (by omega) (by omega) P.sz) (by decide) (by decide) (cells' := 3) rfl (slots' := 771) rfl (by decide) (by decide) (lenOf pd_4 rfl) rfl (rest := []) rfl (W := 0) (Nat.le_of_eq rfl) at_76 (pc' := 79) rfl ?_
      clear O61
      clear Ob64
      rintro T h69 _ P ⟨rfl, K70, O61, Ob64⟩
      replace A57 := A57.keep K70 (ninS ne_b57_b61 (ninS ne_b57_b64 nin0))
      show Goes p e below s n0 room_1.cells room_1.slots (Q0 Z p0 p1 p2 p3 p4 h0) (T.setTop (mkF m 79 #[.val (.int p0), .val (.int p1), .val (.int p2), .val (.int p3), .val (.int p4), .val (.int (Int32.ofNat 0)), .val (.int x55), .val (.int x56), .val (.ref b57), .val (.ref b61)] []))
      refine G.aload P at_79 rfl rfl (pc' := 81) rfl ?_
      refine G.callV P (wd hw (i := 29) rfl) (wd hw (i := 30) rfl) (wd hw (i := 32) rfl) (wd hw (i := 31) rfl) (wd hw (i := 4) rfl) (wd hw (i := 33) rfl) (by decide) O61.1 (argsL := []) (a := b61) (rm5 hw b61 b64 (Int32.ofNat ((0 + 1) + 1)) h69 O61 P.sz) (by decide) (by decide) (cells' := 3) rfl (slots' := 771) rfl (by decide) (by decide) (lenOf pd_5 rfl) rfl (rest := []) rfl (W := 0) (Nat.le_of_eq rfl) at_81 (pc' := 84) rfl ?_
      rintro T _ _ P ⟨rfl, rfl⟩
      show Goes p e below s n0 room_1.cells room_1.slots (Q0 Z p0 p1 p2 p3 p4 h0) (T.setTop (mkF m 84 #[.val (.int p0), .val (.int p1), .val (.int p2), .val (.int p3), .val (.int p4), .val (.int (Int32.ofNat 0)), .val (.int x55), .val (.int x56), .val (.ref b57), .val (.ref b61)] [(.int (Int32.ofNat ((0 + 1) + 1)))]))
      refine G.iload P at_84 rfl (pc' := 86) rfl ?_
      refine G.iconst P at_86 (v := (2 : Int32)) rfl (pc' := 87) rfl ?_
      refine G.iadd P at_87 (pc' := 88) rfl ?_
      refine G.icmp_eq P at_88 (by decide) (pcY := 93) (by decide) (pcN := 91) rfl (fun c88 => ?_) (fun c88 => ?_)
      · refine G.aload P at_93 rfl rfl (pc' := 95) rfl ?_
        refine G.iload P at_95 rfl (pc' := 97) rfl ?_
        refine G.callV P (wd hw (i := 34) rfl) (wd hw (i := 35) rfl) (wd hw (i := 37) rfl) (wd hw (i := 36) rfl) (wd hw (i := 4) rfl) (wd hw (i := 38) rfl) (by decide) O61.1 (argsL := [(.int (Int32.ofNat 0))]) (a := b61) (rm6 hw b61 b64 (Int32.ofNat ((0 + 1) + 1)) (oupd (oupd (cpy (fun _ => 0) F60 0 0 0) 0 (nar .byte x55)) (0 + 1) (nar .byte x56)) 256 0 h69 O61 Ob64 ne_b61_b64 (by omega) (by omega) P.sz) (by decide) (by decide) (cells' := 3) rfl (slots' := 771) rfl (by decide) (by decide) (lenOf pd_6 rfl) rfl (rest := []) rfl (W := 0) (Nat.le_of_eq rfl) at_97 (pc' := 100) rfl ?_
        rintro T _ _ P ⟨rfl, rfl⟩
        show Goes p e below s n0 room_1.cells room_1.slots (Q0 Z p0 p1 p2 p3 p4 h0) (T.setTop (mkF m 100 #[.val (.int p0), .val (.int p1), .val (.int p2), .val (.int p3), .val (.int p4), .val (.int (Int32.ofNat 0)), .val (.int x55), .val (.int x56), .val (.ref b57), .val (.ref b61)] [(.int (nar .byte ((oupd (oupd (cpy (fun _ => 0) F60 0 0 0) 0 (nar .byte x55)) (0 + 1) (nar .byte x56)) 0)))]))
        generalize hr71 : (nar .byte ((oupd (oupd (cpy (fun _ => 0) F60 0 0 0) 0 (nar .byte x55)) (0 + 1) (nar .byte x56)) 0)) = r71
        refine G.iload P at_100 rfl (pc' := 102) rfl ?_
        refine G.icmp_eq P at_102 (by decide) (pcY := 107) (by decide) (pcN := 105) rfl (fun c102 => ?_) (fun c102 => ?_)
        · refine G.aload P at_107 rfl rfl (pc' := 109) rfl ?_
          refine G.iload P at_109 rfl (pc' := 111) rfl ?_
          refine G.iconst P at_111 (v := (1 : Int32)) rfl (pc' := 112) rfl ?_
          refine G.iadd P at_112 (pc' := 113) rfl ?_
          refine G.top (x' := (Int32.ofNat (0 + 1))) (own_succ _) ?_
          refine G.callV P (wd hw (i := 34) rfl) (wd hw (i := 35) rfl) (wd hw (i := 37) rfl) (wd hw (i := 36) rfl) (wd hw (i := 4) rfl) (wd hw (i := 38) rfl) (by decide) O61.1 (argsL := [(.int (Int32.ofNat (0 + 1)))]) (a := b61) (rm6 hw b61 b64 (Int32.ofNat ((0 + 1) + 1)) (oupd (oupd (cpy (fun _ => 0) F60 0 0 0) 0 (nar .byte x55)) (0 + 1) (nar .byte x56)) 256 (0 + 1) h69 O61 Ob64 ne_b61_b64 (by omega) (by omega) P.sz) (by decide) (by decide) (cells' := 3) rfl (slots' := 771) rfl (by decide) (by decide) (lenOf pd_6 rfl) rfl (rest := []) rfl (W := 0) (Nat.le_of_eq rfl) at_113 (pc' := 116) rfl ?_
          rintro T _ _ P ⟨rfl, rfl⟩
          show Goes p e below s n0 room_1.cells room_1.slots (Q0 Z p0 p1 p2 p3 p4 h0) (T.setTop (mkF m 116 #[.val (.int p0), .val (.int p1), .val (.int p2), .val (.int p3), .val (.int p4), .val (.int (Int32.ofNat 0)), .val (.int x55), .val (.int x56), .val (.ref b57), .val (.ref b61)] [(.int (nar .byte ((oupd (oupd (cpy (fun _ => 0) F60 0 0 0) 0 (nar .byte x55)) (0 + 1) (nar .byte x56)) (0 + 1))))]))
          generalize hr72 : (nar .byte ((oupd (oupd (cpy (fun _ => 0) F60 0 0 0) 0 (nar .byte x55)) (0 + 1) (nar .byte x56)) (0 + 1))) = r72
          refine G.iload P at_116 rfl (pc' := 118) rfl ?_
          refine G.icmp_eq P at_118 (by decide) (pcY := 123) (by decide) (pcN := 121) rfl (fun c118 => ?_) (fun c118 => ?_)
          · refine G.iload P at_123 rfl (pc' := 125) rfl ?_
            refine G.if_le P at_125 (by decide) (pcY := 164) (by decide) (pcN := 128) rfl (fun _ => ?_) (fun c => absurd c c34)
            refine G.iconst P at_164 (v := (1 : Int32)) rfl (pc' := 165) rfl ?_
            exact G.ireturnN P (t := .boolean) rfl (by simp) rfl at_165 (by decide) (by decide) ⟨congrArg (fun z => some (Value.int z)) (rfl), trivial⟩
          · exact absurd (hr72.symm.trans ((congrArg (nar .byte) (own_us (by omega))).trans (own_nn hx56))) c118
        · exact absurd (hr71.symm.trans ((congrArg (nar .byte) ((own_un (by omega)).trans (own_us (by omega)))).trans (own_nn hx55))) c102
      · exact absurd (by decide) c88
    · exact absurd c34 (by decide)
  · have hk0 := hk
    refine G.iloadN P at_10 rfl (pc' := 11) rfl ?_
    refine G.i2b P at_11 (pc' := 12) rfl ?_
    obtain ⟨x73, hx73⟩ : ∃ z : Int32, (p1.toInt8.toInt32) = z := ⟨_, rfl⟩
    refine G.istore P at_12 hx73 (L' := #[.val (.int p0), .val (.int p1), .val (.int p2), .val (.int p3), .val (.int p4), .val (.int (Int32.ofNat k)), .val (.int x73), .unset, .unset, .unset]) rfl (pc' := 14) rfl ?_
    refine G.iloadN P at_14 rfl (pc' := 15) rfl ?_
    refine G.i2b P at_15 (pc' := 16) rfl ?_
    obtain ⟨x74, hx74⟩ : ∃ z : Int32, (p2.toInt8.toInt32) = z := ⟨_, rfl⟩
    refine G.istore P at_16 hx74 (L' := #[.val (.int p0), .val (.int p1), .val (.int p2), .val (.int p3), .val (.int p4), .val (.int (Int32.ofNat k)), .val (.int x73), .val (.int x74), .unset, .unset]) rfl (pc' := 18) rfl ?_
    refine G.sipush P at_18 (v := (513 : Int32)) rfl (pc' := 21) rfl ?_
    refine G.newarray P (wd hw (i := 1) rfl) rfl (N := 513) (by decide) (cap := 513) (Nat.le_refl _) (by decide) at_21 (cells' := 1) rfl (slots' := 513) rfl (by decide) (by decide) (pc' := 23) rfl ?_
    intro T h75 b75 hb75 g_b75 P E75 A75
    replace A75 : Ints Z h75 b75 .byte 513 (fun _ => 0) := A75
    refine G.astore P at_23 rfl (L' := #[.val (.int p0), .val (.int p1), .val (.int p2), .val (.int p3), .val (.int p4), .val (.int (Int32.ofNat k)), .val (.int x73), .val (.int x74), .val (.ref b75), .unset]) rfl (pc' := 25) rfl ?_
    refine G.aload P at_25 rfl rfl (pc' := 27) rfl ?_
    refine G.iconst P at_27 (v := (0 : Int32)) rfl (pc' := 28) rfl ?_
    refine G.iload P at_28 rfl (pc' := 30) rfl ?_
    refine G.i2b P at_30 (pc' := 31) rfl ?_
    refine G.bastore P A75 (i := 0) (by decide) (by decide) g_b75 at_31 (pc' := 32) rfl ?_
    intro T h77 P W76
    replace A75 := A75.same W76
    obtain ⟨F78, hF78⟩ : ∃ q : Nat → Int32, (oupd (fun _ => 0) 0 (nar .byte (p4.toInt8.toInt32))) = q := ⟨_, rfl⟩
    rw [hF78] at A75
    refine G.iload P at_32 rfl (pc' := 34) rfl ?_
    refine G.if_le P at_34 (by decide) (pcY := 46) (by decide) (pcN := 37) rfl (fun c34 => ?_) (fun c34 => ?_)
    · exact absurd ((own_lt0 (by omega)).mpr (by omega)) c34
    · refine G.aload P at_37 rfl rfl (pc' := 39) rfl ?_
      refine G.iload P at_39 rfl (pc' := 41) rfl ?_
      refine G.iconst P at_41 (v := (1 : Int32)) rfl (pc' := 42) rfl ?_
      refine G.isub P at_42 (pc' := 43) rfl ?_
      refine G.top (x' := (Int32.ofNat (k - 1))) (own_pred (by omega)) ?_
      refine G.iloadN P at_43 rfl (pc' := 44) rfl ?_
      refine G.i2b P at_44 (pc' := 45) rfl ?_
      refine G.bastore P A75 (i := (k - 1)) (own_toInt (by omega)) (by omega) g_b75 at_45 (pc' := 46) rfl ?_
      intro T h80 P W79
      replace A75 := A75.same W79
      obtain ⟨F81, hF81⟩ : ∃ q : Nat → Int32, (oupd F78 (k - 1) (nar .byte (p3.toInt8.toInt32))) = q := ⟨_, rfl⟩
      rw [hF81] at A75
      have hB : Byt 513 F81 := (by rw [← hF81]; exact own_bytu (by rw [← hF78]; exact own_bytu own_z0))
      refine G.new P (wd hw (i := 2) rfl) (wd hw (i := 3) rfl) (wd hw (i := 4) rfl) at_46 (cells' := 2) rfl (slots' := 515) rfl (by decide) (by decide) (pc' := 49) rfl ?_
      intro T h82 b82 hb82 g_b82 P E82 X82 D82
      have ne_b75_b82 : b75 ≠ b82 := by rw [hb82]; exact Nat.ne_of_lt A75.lt
      replace A75 := A75.ext E82
      have O82 := ObBY.new hw X82 @D82
      refine G.dup P at_49 rfl (pc' := 50) rfl ?_
      refine G.callI P rfl (wd hw (i := 5) rfl) (wd hw (i := 6) rfl) (wd hw (i := 4) rfl) (wd hw (i := 7) rfl) (by decide) (argsL := []) (a := b82) (rm1 hw b82 h82 O82 g_b82 P.sz) (by decide) (by decide) (cells' := 3) rfl (slots' := 771) rfl (by decide) (by decide) (lenOf pd_1 rfl) rfl (rest := [(.ref b82)]) rfl (W := 1) (Nat.le_of_eq rfl) at_50 (pc' := 53) rfl ?_
      have old_b85 := P.sz
      rintro T h83 _ P ⟨b85, rfl, sz_b85, K84, Ob85, O82'⟩
      have g_b85 : n0 ≤ b85 := Nat.le_trans old_b85 sz_b85
      have ne_b75_b85 : b75 ≠ b85 := Nat.ne_of_lt (Nat.lt_of_lt_of_le A75.lt sz_b85)
      have ne_b82_b85 : b82 ≠ b85 := Nat.ne_of_lt (Nat.lt_of_lt_of_le O82.lt sz_b85)
      replace O82 := O82'
      replace A75 := A75.keep K84 (ninS ne_b75_b82 nin0)
      show Goes p e below s n0 room_1.cells room_1.slots (Q0 Z p0 p1 p2 p3 p4 h0) (T.setTop (mkF m 53 #[.val (.int p0), .val (.int p1), .val (.int p2), .val (.int p3), .val (.int p4), .val (.int (Int32.ofNat k)), .val (.int x73), .val (.int x74), .val (.ref b75), .unset] [(.ref b82)]))
      refine G.astore P at_53 rfl (L' := #[.val (.int p0), .val (.int p1), .val (.int p2), .val (.int p3), .val (.int p4), .val (.int (Int32.ofNat k)), .val (.int x73), .val (.int x74), .val (.ref b75), .val (.ref b82)]) rfl (pc' := 55) rfl ?_
      refine G.aload P at_55 rfl rfl (pc' := 57) rfl ?_
      refine G.aload P at_57 rfl rfl (pc' := 59) rfl ?_
      refine G.iconst P at_59 (v := (0 : Int32)) rfl (pc' := 60) rfl ?_
      refine G.iload P at_60 rfl (pc' := 62) rfl ?_
      refine G.callV P (wd hw (i := 13) rfl) (wd hw (i := 14) rfl) (wd hw (i := 16) rfl) (wd hw (i := 15) rfl) (wd hw (i := 4) rfl) (wd hw (i := 17) rfl) (by decide) O82.1 (argsL := [(.ref b75), (.int (0 : Int32)), (.int (Int32.ofNat k))]) (a := b82) (rm3A hw b82 b75 b85 F81 k h83 O82 Ob85 A75 ne_b82_b85 (Ne.symm ne_b75_b82) (Ne.symm ne_b75_b85) g_b82 g_b85 (by omega) hB P.sz) (by decide) (by decide) (cells' := 3) rfl (slots' := 771) rfl (by decide) (by decide) (lenOf pd_3 rfl) rfl (rest := []) rfl (W := 0) (Nat.le_of_eq rfl) at_62 (pc' := 65) rfl ?_
      clear O82
      clear Ob85
      clear A75
      rintro T h86 _ P ⟨rfl, K87, O82, Ob85, A75⟩
      show Goes p e below s n0 room_1.cells room_1.slots (Q0 Z p0 p1 p2 p3 p4 h0) (T.setTop (mkF m 65 #[.val (.int p0), .val (.int p1), .val (.int p2), .val (.int p3), .val (.int p4), .val (.int (Int32.ofNat k)), .val (.int x73), .val (.int x74), .val (.ref b75), .val (.ref b82)] []))
      refine G.aload P at_65 rfl rfl (pc' := 67) rfl ?_
      refine G.iload P at_67 rfl (pc' := 69) rfl ?_
      refine G.callV P (wd hw (i := 24) rfl) (wd hw (i := 25) rfl) (wd hw (i := 27) rfl) (wd hw (i := 26) rfl) (wd hw (i := 4) rfl) (wd hw (i := 28) rfl) (by decide) O82.1 (argsL := [(.int x73)]) (a := b82) (rm4N hw b82 x73 b85 (cpy (fun _ => 0) F81 0 0 k) k 256 h86 O82 Ob85 ne_b82_b85 g_b82 g_b85 (by omega) (by omega) P.sz) (by decide) (by decide) (cells' := 3) rfl (slots' := 771) rfl (by decide) (by decide) (lenOf pd_4 rfl) rfl (rest := []) rfl (W := 0) (Nat.le_of_eq rfl) at_69 (pc' := 72) rfl ?_
      clear O82
      clear Ob85
      rintro T h88 _ P ⟨rfl, K89, O82, Ob85⟩
      replace A75 := A75.keep K89 (ninS ne_b75_b82 (ninS ne_b75_b85 nin0))
      show Goes p e below s n0 room_1.cells room_1.slots (Q0 Z p0 p1 p2 p3 p4 h0) (T.setTop (mkF m 72 #[.val (.int p0), .val (.int p1), .val (.int p2), .val (.int p3), .val (.int p4), .val (.int (Int32.ofNat k)), .val (.int x73), .val (.int x74), .val (.ref b75), .val (.ref b82)] []))
      refine G.aload P at_72 rfl rfl (pc' := 74) rfl ?_
      refine G.iload P at_74 rfl (pc' := 76) rfl ?_
      refine G.callV P (wd hw (i := 24) rfl) (wd hw (i := 25) rfl) (wd hw (i := 27) rfl) (wd hw (i := 26) rfl) (wd hw (i := 4) rfl) (wd hw (i := 28) rfl) (by decide) O82.1 (argsL := [(.int x74)]) (a := b82) (rm4N hw b82 x74 b85 (oupd (cpy (fun _ => 0) F81 0 0 k) k (nar .byte x73)) (k + 1) 256 h88 O82 Ob85 ne_b82_b85 g_b82 g_b85 (by omega) (by omega) P.sz) (by decide) (by decide) (cells' := 3) rfl (slots' := 771) rfl (by decide) (by decide) (lenOf pd_4 rfl) rfl (rest := []) rfl (W := 0) (Nat.le_of_eq rfl) at_76 (pc' := 79) rfl ?_
      clear O82
      clear Ob85
      rintro T h90 _ P ⟨rfl, K91, O82, Ob85⟩
      replace A75 := A75.keep K91 (ninS ne_b75_b82 (ninS ne_b75_b85 nin0))
      show Goes p e below s n0 room_1.cells room_1.slots (Q0 Z p0 p1 p2 p3 p4 h0) (T.setTop (mkF m 79 #[.val (.int p0), .val (.int p1), .val (.int p2), .val (.int p3), .val (.int p4), .val (.int (Int32.ofNat k)), .val (.int x73), .val (.int x74), .val (.ref b75), .val (.ref b82)] []))
      refine G.aload P at_79 rfl rfl (pc' := 81) rfl ?_
      refine G.callV P (wd hw (i := 29) rfl) (wd hw (i := 30) rfl) (wd hw (i := 32) rfl) (wd hw (i := 31) rfl) (wd hw (i := 4) rfl) (wd hw (i := 33) rfl) (by decide) O82.1 (argsL := []) (a := b82) (rm5 hw b82 b85 (Int32.ofNat ((k + 1) + 1)) h90 O82 P.sz) (by decide) (by decide) (cells' := 3) rfl (slots' := 771) rfl (by decide) (by decide) (lenOf pd_5 rfl) rfl (rest := []) rfl (W := 0) (Nat.le_of_eq rfl) at_81 (pc' := 84) rfl ?_
      rintro T _ _ P ⟨rfl, rfl⟩
      show Goes p e below s n0 room_1.cells room_1.slots (Q0 Z p0 p1 p2 p3 p4 h0) (T.setTop (mkF m 84 #[.val (.int p0), .val (.int p1), .val (.int p2), .val (.int p3), .val (.int p4), .val (.int (Int32.ofNat k)), .val (.int x73), .val (.int x74), .val (.ref b75), .val (.ref b82)] [(.int (Int32.ofNat ((k + 1) + 1)))]))
      refine G.iload P at_84 rfl (pc' := 86) rfl ?_
      refine G.iconst P at_86 (v := (2 : Int32)) rfl (pc' := 87) rfl ?_
      refine G.iadd P at_87 (pc' := 88) rfl ?_
      refine G.icmp_eq P at_88 (by decide) (pcY := 93) (by decide) (pcN := 91) rfl (fun c88 => ?_) (fun c88 => ?_)
      · refine G.aload P at_93 rfl rfl (pc' := 95) rfl ?_
        refine G.iload P at_95 rfl (pc' := 97) rfl ?_
        refine G.callV P (wd hw (i := 34) rfl) (wd hw (i := 35) rfl) (wd hw (i := 37) rfl) (wd hw (i := 36) rfl) (wd hw (i := 4) rfl) (wd hw (i := 38) rfl) (by decide) O82.1 (argsL := [(.int (Int32.ofNat k))]) (a := b82) (rm6 hw b82 b85 (Int32.ofNat ((k + 1) + 1)) (oupd (oupd (cpy (fun _ => 0) F81 0 0 k) k (nar .byte x73)) (k + 1) (nar .byte x74)) 256 k h90 O82 Ob85 ne_b82_b85 (by omega) (by omega) P.sz) (by decide) (by decide) (cells' := 3) rfl (slots' := 771) rfl (by decide) (by decide) (lenOf pd_6 rfl) rfl (rest := []) rfl (W := 0) (Nat.le_of_eq rfl) at_97 (pc' := 100) rfl ?_
        rintro T _ _ P ⟨rfl, rfl⟩
        show Goes p e below s n0 room_1.cells room_1.slots (Q0 Z p0 p1 p2 p3 p4 h0) (T.setTop (mkF m 100 #[.val (.int p0), .val (.int p1), .val (.int p2), .val (.int p3), .val (.int p4), .val (.int (Int32.ofNat k)), .val (.int x73), .val (.int x74), .val (.ref b75), .val (.ref b82)] [(.int (nar .byte ((oupd (oupd (cpy (fun _ => 0) F81 0 0 k) k (nar .byte x73)) (k + 1) (nar .byte x74)) k)))]))
        generalize hr92 : (nar .byte ((oupd (oupd (cpy (fun _ => 0) F81 0 0 k) k (nar .byte x73)) (k + 1) (nar .byte x74)) k)) = r92
        refine G.iload P at_100 rfl (pc' := 102) rfl ?_
        refine G.icmp_eq P at_102 (by decide) (pcY := 107) (by decide) (pcN := 105) rfl (fun c102 => ?_) (fun c102 => ?_)
        · refine G.aload P at_107 rfl rfl (pc' := 109) rfl ?_
          refine G.iload P at_109 rfl (pc' := 111) rfl ?_
          refine G.iconst P at_111 (v := (1 : Int32)) rfl (pc' := 112) rfl ?_
          refine G.iadd P at_112 (pc' := 113) rfl ?_
          refine G.top (x' := (Int32.ofNat (k + 1))) (own_succ _) ?_
          refine G.callV P (wd hw (i := 34) rfl) (wd hw (i := 35) rfl) (wd hw (i := 37) rfl) (wd hw (i := 36) rfl) (wd hw (i := 4) rfl) (wd hw (i := 38) rfl) (by decide) O82.1 (argsL := [(.int (Int32.ofNat (k + 1)))]) (a := b82) (rm6 hw b82 b85 (Int32.ofNat ((k + 1) + 1)) (oupd (oupd (cpy (fun _ => 0) F81 0 0 k) k (nar .byte x73)) (k + 1) (nar .byte x74)) 256 (k + 1) h90 O82 Ob85 ne_b82_b85 (by omega) (by omega) P.sz) (by decide) (by decide) (cells' := 3) rfl (slots' := 771) rfl (by decide) (by decide) (lenOf pd_6 rfl) rfl (rest := []) rfl (W := 0) (Nat.le_of_eq rfl) at_113 (pc' := 116) rfl ?_
          rintro T _ _ P ⟨rfl, rfl⟩
          show Goes p e below s n0 room_1.cells room_1.slots (Q0 Z p0 p1 p2 p3 p4 h0) (T.setTop (mkF m 116 #[.val (.int p0), .val (.int p1), .val (.int p2), .val (.int p3), .val (.int p4), .val (.int (Int32.ofNat k)), .val (.int x73), .val (.int x74), .val (.ref b75), .val (.ref b82)] [(.int (nar .byte ((oupd (oupd (cpy (fun _ => 0) F81 0 0 k) k (nar .byte x73)) (k + 1) (nar .byte x74)) (k + 1))))]))
          generalize hr93 : (nar .byte ((oupd (oupd (cpy (fun _ => 0) F81 0 0 k) k (nar .byte x73)) (k + 1) (nar .byte x74)) (k + 1))) = r93
          refine G.iload P at_116 rfl (pc' := 118) rfl ?_
          refine G.icmp_eq P at_118 (by decide) (pcY := 123) (by decide) (pcN := 121) rfl (fun c118 => ?_) (fun c118 => ?_)
          · refine G.iload P at_123 rfl (pc' := 125) rfl ?_
            refine G.if_le P at_125 (by decide) (pcY := 164) (by decide) (pcN := 128) rfl (fun c => absurd c34 c) (fun _ => ?_)
            refine G.aload P at_128 rfl rfl (pc' := 130) rfl ?_
            refine G.iconst P at_130 (v := (0 : Int32)) rfl (pc' := 131) rfl ?_
            refine G.callV P (wd hw (i := 34) rfl) (wd hw (i := 35) rfl) (wd hw (i := 37) rfl) (wd hw (i := 36) rfl) (wd hw (i := 4) rfl) (wd hw (i := 38) rfl) (by decide) O82.1 (argsL := [(.int (0 : Int32))]) (a := b82) (rm6 hw b82 b85 (Int32.ofNat ((k + 1) + 1)) (oupd (oupd (cpy (fun _ => 0) F81 0 0 k) k (nar .byte x73)) (k + 1) (nar .byte x74)) 256 0 h90 O82 Ob85 ne_b82_b85 (by omega) (by omega) P.sz) (by decide) (by decide) (cells' := 3) rfl (slots' := 771) rfl (by decide) (by decide) (lenOf pd_6 rfl) rfl (rest := []) rfl (W := 0) (Nat.le_of_eq rfl) at_131 (pc' := 134) rfl ?_
            rintro T _ _ P ⟨rfl, rfl⟩
            show Goes p e below s n0 room_1.cells room_1.slots (Q0 Z p0 p1 p2 p3 p4 h0) (T.setTop (mkF m 134 #[.val (.int p0), .val (.int p1), .val (.int p2), .val (.int p3), .val (.int p4), .val (.int (Int32.ofNat k)), .val (.int x73), .val (.int x74), .val (.ref b75), .val (.ref b82)] [(.int (nar .byte ((oupd (oupd (cpy (fun _ => 0) F81 0 0 k) k (nar .byte x73)) (k + 1) (nar .byte x74)) 0)))]))
            generalize hr94 : (nar .byte ((oupd (oupd (cpy (fun _ => 0) F81 0 0 k) k (nar .byte x73)) (k + 1) (nar .byte x74)) 0)) = r94
            refine G.aload P at_134 rfl rfl (pc' := 136) rfl ?_
            refine G.iconst P at_136 (v := (0 : Int32)) rfl (pc' := 137) rfl ?_
            refine G.baload P A75 (i := 0) (by decide) (by decide) at_137 (pc' := 138) rfl ?_
            generalize hx95 : (F81 0) = x95
            refine G.icmp_eq P at_138 (by decide) (pcY := 143) (by decide) (pcN := 141) rfl (fun c138 => ?_) (fun c138 => ?_)
            · refine G.aload P at_143 rfl rfl (pc' := 145) rfl ?_
              refine G.iload P at_145 rfl (pc' := 147) rfl ?_
              refine G.iconst P at_147 (v := (1 : Int32)) rfl (pc' := 148) rfl ?_
              refine G.isub P at_148 (pc' := 149) rfl ?_
              refine G.top (x' := (Int32.ofNat (k - 1))) (own_pred (by omega)) ?_
              refine G.callV P (wd hw (i := 34) rfl) (wd hw (i := 35) rfl) (wd hw (i := 37) rfl) (wd hw (i := 36) rfl) (wd hw (i := 4) rfl) (wd hw (i := 38) rfl) (by decide) O82.1 (argsL := [(.int (Int32.ofNat (k - 1)))]) (a := b82) (rm6 hw b82 b85 (Int32.ofNat ((k + 1) + 1)) (oupd (oupd (cpy (fun _ => 0) F81 0 0 k) k (nar .byte x73)) (k + 1) (nar .byte x74)) 256 (k - 1) h90 O82 Ob85 ne_b82_b85 (by omega) (by omega) P.sz) (by decide) (by decide) (cells' := 3) rfl (slots' := 771) rfl (by decide) (by decide) (lenOf pd_6 rfl) rfl (rest := []) rfl (W := 0) (Nat.le_of_eq rfl) at_149 (pc' := 152) rfl ?_
              rintro T _ _ P ⟨rfl, rfl⟩
              show Goes p e below s n0 room_1.cells room_1.slots (Q0 Z p0 p1 p2 p3 p4 h0) (T.setTop (mkF m 152 #[.val (.int p0), .val (.int p1), .val (.int p2), .val (.int p3), .val (.int p4), .val (.int (Int32.ofNat k)), .val (.int x73), .val (.int x74), .val (.ref b75), .val (.ref b82)] [(.int (nar .byte ((oupd (oupd (cpy (fun _ => 0) F81 0 0 k) k (nar .byte x73)) (k + 1) (nar .byte x74)) (k - 1))))]))
              generalize hr96 : (nar .byte ((oupd (oupd (cpy (fun _ => 0) F81 0 0 k) k (nar .byte x73)) (k + 1) (nar .byte x74)) (k - 1))) = r96
              refine G.aload P at_152 rfl rfl (pc' := 154) rfl ?_
              refine G.iload P at_154 rfl (pc' := 156) rfl ?_
              refine G.iconst P at_156 (v := (1 : Int32)) rfl (pc' := 157) rfl ?_
              refine G.isub P at_157 (pc' := 158) rfl ?_
              refine G.top (x' := (Int32.ofNat (k - 1))) (own_pred (by omega)) ?_
              refine G.baload P A75 (i := (k - 1)) (own_toInt (by omega)) (by omega) at_158 (pc' := 159) rfl ?_
              generalize hx97 : (F81 (k - 1)) = x97
              refine G.icmp_eq P at_159 (by decide) (pcY := 164) (by decide) (pcN := 162) rfl (fun c159 => ?_) (fun c159 => ?_)
              · refine G.iconst P at_164 (v := (1 : Int32)) rfl (pc' := 165) rfl ?_
                exact G.ireturnN P (t := .boolean) rfl (by simp) rfl at_165 (by decide) (by decide) ⟨congrArg (fun z => some (Value.int z)) (rfl), trivial⟩
              · exact absurd (hr96.symm.trans ((congrArg (nar .byte) ((own_un (by omega)).trans ((own_un (by omega)).trans (own_cin (by omega))))).trans ((own_nar (hB _ (by omega))).trans hx97))) c159
            · exact absurd (hr94.symm.trans ((congrArg (nar .byte) ((own_un (by omega)).trans ((own_un (by omega)).trans (own_cin (by omega))))).trans ((own_nar (hB _ (by omega))).trans hx95))) c138
          · exact absurd (hr93.symm.trans ((congrArg (nar .byte) (own_us (by omega))).trans (own_nn hx74))) c118
        · exact absurd (hr92.symm.trans ((congrArg (nar .byte) ((own_un (by omega)).trans (own_us (by omega)))).trans (own_nn hx73))) c102
      · exact absurd (Int32.ofNat_add k 2) c88
  · have hk0 := hk
    refine G.iloadN P at_10 rfl (pc' := 11) rfl ?_
    refine G.i2b P at_11 (pc' := 12) rfl ?_
    obtain ⟨x98, hx98⟩ : ∃ z : Int32, (p1.toInt8.toInt32) = z := ⟨_, rfl⟩
    refine G.istore P at_12 hx98 (L' := #[.val (.int p0), .val (.int p1), .val (.int p2), .val (.int p3), .val (.int p4), .val (.int (Int32.ofNat 255)), .val (.int x98), .unset, .unset, .unset]) rfl (pc' := 14) rfl ?_
    refine G.iloadN P at_14 rfl (pc' := 15) rfl ?_
    refine G.i2b P at_15 (pc' := 16) rfl ?_
    obtain ⟨x99, hx99⟩ : ∃ z : Int32, (p2.toInt8.toInt32) = z := ⟨_, rfl⟩
    refine G.istore P at_16 hx99 (L' := #[.val (.int p0), .val (.int p1), .val (.int p2), .val (.int p3), .val (.int p4), .val (.int (Int32.ofNat 255)), .val (.int x98), .val (.int x99), .unset, .unset]) rfl (pc' := 18) rfl ?_
    refine G.sipush P at_18 (v := (513 : Int32)) rfl (pc' := 21) rfl ?_
    refine G.newarray P (wd hw (i := 1) rfl) rfl (N := 513) (by decide) (cap := 513) (Nat.le_refl _) (by decide) at_21 (cells' := 1) rfl (slots' := 513) rfl (by decide) (by decide) (pc' := 23) rfl ?_
    intro T h100 b100 hb100 g_b100 P E100 A100
    replace A100 : Ints Z h100 b100 .byte 513 (fun _ => 0) := A100
    refine G.astore P at_23 rfl (L' := #[.val (.int p0), .val (.int p1), .val (.int p2), .val (.int p3), .val (.int p4), .val (.int (Int32.ofNat 255)), .val (.int x98), .val (.int x99), .val (.ref b100), .unset]) rfl (pc' := 25) rfl ?_
    refine G.aload P at_25 rfl rfl (pc' := 27) rfl ?_
    refine G.iconst P at_27 (v := (0 : Int32)) rfl (pc' := 28) rfl ?_
    refine G.iload P at_28 rfl (pc' := 30) rfl ?_
    refine G.i2b P at_30 (pc' := 31) rfl ?_
    refine G.bastore P A100 (i := 0) (by decide) (by decide) g_b100 at_31 (pc' := 32) rfl ?_
    intro T h102 P W101
    replace A100 := A100.same W101
    obtain ⟨F103, hF103⟩ : ∃ q : Nat → Int32, (oupd (fun _ => 0) 0 (nar .byte (p4.toInt8.toInt32))) = q := ⟨_, rfl⟩
    rw [hF103] at A100
    refine G.iload P at_32 rfl (pc' := 34) rfl ?_
    refine G.if_le P at_34 (by decide) (pcY := 46) (by decide) (pcN := 37) rfl (fun c34 => ?_) (fun c34 => ?_)
    · exact absurd ((own_lt0 (by omega)).mpr (by omega)) c34
    · refine G.aload P at_37 rfl rfl (pc' := 39) rfl ?_
      refine G.iload P at_39 rfl (pc' := 41) rfl ?_
      refine G.iconst P at_41 (v := (1 : Int32)) rfl (pc' := 42) rfl ?_
      refine G.isub P at_42 (pc' := 43) rfl ?_
      refine G.top (x' := (Int32.ofNat (255 - 1))) (own_pred (by omega)) ?_
      refine G.iloadN P at_43 rfl (pc' := 44) rfl ?_
      refine G.i2b P at_44 (pc' := 45) rfl ?_
      refine G.bastore P A100 (i := (255 - 1)) (own_toInt (by omega)) (by omega) g_b100 at_45 (pc' := 46) rfl ?_
      intro T h105 P W104
      replace A100 := A100.same W104
      obtain ⟨F106, hF106⟩ : ∃ q : Nat → Int32, (oupd F103 (255 - 1) (nar .byte (p3.toInt8.toInt32))) = q := ⟨_, rfl⟩
      rw [hF106] at A100
      have hB : Byt 513 F106 := (by rw [← hF106]; exact own_bytu (by rw [← hF103]; exact own_bytu own_z0))
      refine G.new P (wd hw (i := 2) rfl) (wd hw (i := 3) rfl) (wd hw (i := 4) rfl) at_46 (cells' := 2) rfl (slots' := 515) rfl (by decide) (by decide) (pc' := 49) rfl ?_
      intro T h107 b107 hb107 g_b107 P E107 X107 D107
      have ne_b100_b107 : b100 ≠ b107 := by rw [hb107]; exact Nat.ne_of_lt A100.lt
      replace A100 := A100.ext E107
      have O107 := ObBY.new hw X107 @D107
      refine G.dup P at_49 rfl (pc' := 50) rfl ?_
      refine G.callI P rfl (wd hw (i := 5) rfl) (wd hw (i := 6) rfl) (wd hw (i := 4) rfl) (wd hw (i := 7) rfl) (by decide) (argsL := []) (a := b107) (rm1 hw b107 h107 O107 g_b107 P.sz) (by decide) (by decide) (cells' := 3) rfl (slots' := 771) rfl (by decide) (by decide) (lenOf pd_1 rfl) rfl (rest := [(.ref b107)]) rfl (W := 1) (Nat.le_of_eq rfl) at_50 (pc' := 53) rfl ?_
      have old_b110 := P.sz
      rintro T h108 _ P ⟨b110, rfl, sz_b110, K109, Ob110, O107'⟩
      have g_b110 : n0 ≤ b110 := Nat.le_trans old_b110 sz_b110
      have ne_b100_b110 : b100 ≠ b110 := Nat.ne_of_lt (Nat.lt_of_lt_of_le A100.lt sz_b110)
      have ne_b107_b110 : b107 ≠ b110 := Nat.ne_of_lt (Nat.lt_of_lt_of_le O107.lt sz_b110)
      replace O107 := O107'
      replace A100 := A100.keep K109 (ninS ne_b100_b107 nin0)
      show Goes p e below s n0 room_1.cells room_1.slots (Q0 Z p0 p1 p2 p3 p4 h0) (T.setTop (mkF m 53 #[.val (.int p0), .val (.int p1), .val (.int p2), .val (.int p3), .val (.int p4), .val (.int (Int32.ofNat 255)), .val (.int x98), .val (.int x99), .val (.ref b100), .unset] [(.ref b107)]))
      refine G.astore P at_53 rfl (L' := #[.val (.int p0), .val (.int p1), .val (.int p2), .val (.int p3), .val (.int p4), .val (.int (Int32.ofNat 255)), .val (.int x98), .val (.int x99), .val (.ref b100), .val (.ref b107)]) rfl (pc' := 55) rfl ?_
      refine G.aload P at_55 rfl rfl (pc' := 57) rfl ?_
      refine G.aload P at_57 rfl rfl (pc' := 59) rfl ?_
      refine G.iconst P at_59 (v := (0 : Int32)) rfl (pc' := 60) rfl ?_
      refine G.iload P at_60 rfl (pc' := 62) rfl ?_
      refine G.callV P (wd hw (i := 13) rfl) (wd hw (i := 14) rfl) (wd hw (i := 16) rfl) (wd hw (i := 15) rfl) (wd hw (i := 4) rfl) (wd hw (i := 17) rfl) (by decide) O107.1 (argsL := [(.ref b100), (.int (0 : Int32)), (.int (Int32.ofNat 255))]) (a := b107) (rm3A hw b107 b100 b110 F106 255 h108 O107 Ob110 A100 ne_b107_b110 (Ne.symm ne_b100_b107) (Ne.symm ne_b100_b110) g_b107 g_b110 (by omega) hB P.sz) (by decide) (by decide) (cells' := 3) rfl (slots' := 771) rfl (by decide) (by decide) (lenOf pd_3 rfl) rfl (rest := []) rfl (W := 0) (Nat.le_of_eq rfl) at_62 (pc' := 65) rfl ?_
      clear O107
      clear Ob110
      clear A100
      rintro T h111 _ P ⟨rfl, K112, O107, Ob110, A100⟩
      show Goes p e below s n0 room_1.cells room_1.slots (Q0 Z p0 p1 p2 p3 p4 h0) (T.setTop (mkF m 65 #[.val (.int p0), .val (.int p1), .val (.int p2), .val (.int p3), .val (.int p4), .val (.int (Int32.ofNat 255)), .val (.int x98), .val (.int x99), .val (.ref b100), .val (.ref b107)] []))
      refine G.aload P at_65 rfl rfl (pc' := 67) rfl ?_
      refine G.iload P at_67 rfl (pc' := 69) rfl ?_
      refine G.callV P (wd hw (i := 24) rfl) (wd hw (i := 25) rfl) (wd hw (i := 27) rfl) (wd hw (i := 26) rfl) (wd hw (i := 4) rfl) (wd hw (i := 28) rfl) (by decide) O107.1 (argsL := [(.int x98)]) (a := b107) (rm4N hw b107 x98 b110 (cpy (fun _ => 0) F106 0 0 255) 255 256 h111 O107 Ob110 ne_b107_b110 g_b107 g_b110 (by omega) (by omega) P.sz) (by decide) (by decide) (cells' := 3) rfl (slots' := 771) rfl (by decide) (by decide) (lenOf pd_4 rfl) rfl (rest := []) rfl (W := 0) (Nat.le_of_eq rfl) at_69 (pc' := 72) rfl ?_
      clear O107
      clear Ob110
      rintro T h113 _ P ⟨rfl, K114, O107, Ob110⟩
      replace A100 := A100.keep K114 (ninS ne_b100_b107 (ninS ne_b100_b110 nin0))
      show Goes p e below s n0 room_1.cells room_1.slots (Q0 Z p0 p1 p2 p3 p4 h0) (T.setTop (mkF m 72 #[.val (.int p0), .val (.int p1), .val (.int p2), .val (.int p3), .val (.int p4), .val (.int (Int32.ofNat 255)), .val (.int x98), .val (.int x99), .val (.ref b100), .val (.ref b107)] []))
      refine G.aload P at_72 rfl rfl (pc' := 74) rfl ?_
      refine G.iload P at_74 rfl (pc' := 76) rfl ?_
      refine G.callV P (wd hw (i := 24) rfl) (wd hw (i := 25) rfl) (wd hw (i := 27) rfl) (wd hw (i := 26) rfl) (wd hw (i := 4) rfl) (wd hw (i := 28) rfl) (by decide) O107.1 (argsL := [(.int x99)]) (a := b107) (rm4Ga hw b107 x99 b110 (oupd (cpy (fun _ => 0) F106 0 0 255) 255 (nar .byte x98)) h113 O107 Ob110 ne_b107_b110 g_b107 (own_bytu (own_bytc own_z0 hB (by omega))) P.sz) (by decide) (by decide) (cells' := 4) rfl (slots' := 1283) rfl (by decide) (by decide) (lenOf pd_4 rfl) rfl (rest := []) rfl (W := 0) (Nat.le_of_eq rfl) at_76 (pc' := 79) rfl ?_
      have old_b117 := P.sz
      rintro T h115 _ P ⟨b117, rfl, sz_b117, K116, Ob117, O107', Ob110'⟩
      have g_b117 : n0 ≤ b117 := Nat.le_trans old_b117 sz_b117
      have ne_b100_b117 : b100 ≠ b117 := Nat.ne_of_lt (Nat.lt_of_lt_of_le A100.lt sz_b117)
      have ne_b107_b117 : b107 ≠ b117 := Nat.ne_of_lt (Nat.lt_of_lt_of_le O107.lt sz_b117)
      have ne_b110_b117 : b110 ≠ b117 := Nat.ne_of_lt (Nat.lt_of_lt_of_le Ob110.lt sz_b117)
      replace O107 := O107'
      replace Ob110 := Ob110'
      replace A100 := A100.keep K116 (ninS ne_b100_b107 nin0)
      show Goes p e below s n0 room_1.cells room_1.slots (Q0 Z p0 p1 p2 p3 p4 h0) (T.setTop (mkF m 79 #[.val (.int p0), .val (.int p1), .val (.int p2), .val (.int p3), .val (.int p4), .val (.int (Int32.ofNat 255)), .val (.int x98), .val (.int x99), .val (.ref b100), .val (.ref b107)] []))
      refine G.aload P at_79 rfl rfl (pc' := 81) rfl ?_
      refine G.callV P (wd hw (i := 29) rfl) (wd hw (i := 30) rfl) (wd hw (i := 32) rfl) (wd hw (i := 31) rfl) (wd hw (i := 4) rfl) (wd hw (i := 33) rfl) (by decide) O107.1 (argsL := []) (a := b107) (rm5 hw b107 b117 (Int32.ofNat 257) h115 O107 P.sz) (by decide) (by decide) (cells' := 4) rfl (slots' := 1283) rfl (by decide) (by decide) (lenOf pd_5 rfl) rfl (rest := []) rfl (W := 0) (Nat.le_of_eq rfl) at_81 (pc' := 84) rfl ?_
      rintro T _ _ P ⟨rfl, rfl⟩
      show Goes p e below s n0 room_1.cells room_1.slots (Q0 Z p0 p1 p2 p3 p4 h0) (T.setTop (mkF m 84 #[.val (.int p0), .val (.int p1), .val (.int p2), .val (.int p3), .val (.int p4), .val (.int (Int32.ofNat 255)), .val (.int x98), .val (.int x99), .val (.ref b100), .val (.ref b107)] [(.int (Int32.ofNat 257))]))
      refine G.iload P at_84 rfl (pc' := 86) rfl ?_
      refine G.iconst P at_86 (v := (2 : Int32)) rfl (pc' := 87) rfl ?_
      refine G.iadd P at_87 (pc' := 88) rfl ?_
      refine G.icmp_eq P at_88 (by decide) (pcY := 93) (by decide) (pcN := 91) rfl (fun c88 => ?_) (fun c88 => ?_)
      · refine G.aload P at_93 rfl rfl (pc' := 95) rfl ?_
        refine G.iload P at_95 rfl (pc' := 97) rfl ?_
        refine G.callV P (wd hw (i := 34) rfl) (wd hw (i := 35) rfl) (wd hw (i := 37) rfl) (wd hw (i := 36) rfl) (wd hw (i := 4) rfl) (wd hw (i := 38) rfl) (by decide) O107.1 (argsL := [(.int (Int32.ofNat 255))]) (a := b107) (rm6 hw b107 b117 (Int32.ofNat 257) (oupd (cpy (fun _ => 0) (oupd (cpy (fun _ => 0) F106 0 0 255) 255 (nar .byte x98)) 0 0 256) 256 (nar .byte x99)) 512 255 h115 O107 Ob117 ne_b107_b117 (by omega) (by omega) P.sz) (by decide) (by decide) (cells' := 4) rfl (slots' := 1283) rfl (by decide) (by decide) (lenOf pd_6 rfl) rfl (rest := []) rfl (W := 0) (Nat.le_of_eq rfl) at_97 (pc' := 100) rfl ?_
        rintro T _ _ P ⟨rfl, rfl⟩
        show Goes p e below s n0 room_1.cells room_1.slots (Q0 Z p0 p1 p2 p3 p4 h0) (T.setTop (mkF m 100 #[.val (.int p0), .val (.int p1), .val (.int p2), .val (.int p3), .val (.int p4), .val (.int (Int32.ofNat 255)), .val (.int x98), .val (.int x99), .val (.ref b100), .val (.ref b107)] [(.int (nar .byte ((oupd (cpy (fun _ => 0) (oupd (cpy (fun _ => 0) F106 0 0 255) 255 (nar .byte x98)) 0 0 256) 256 (nar .byte x99)) 255)))]))
        generalize hr118 : (nar .byte ((oupd (cpy (fun _ => 0) (oupd (cpy (fun _ => 0) F106 0 0 255) 255 (nar .byte x98)) 0 0 256) 256 (nar .byte x99)) 255)) = r118
        refine G.iload P at_100 rfl (pc' := 102) rfl ?_
        refine G.icmp_eq P at_102 (by decide) (pcY := 107) (by decide) (pcN := 105) rfl (fun c102 => ?_) (fun c102 => ?_)
        · refine G.aload P at_107 rfl rfl (pc' := 109) rfl ?_
          refine G.iload P at_109 rfl (pc' := 111) rfl ?_
          refine G.iconst P at_111 (v := (1 : Int32)) rfl (pc' := 112) rfl ?_
          refine G.iadd P at_112 (pc' := 113) rfl ?_
          refine G.top (x' := (Int32.ofNat (255 + 1))) (own_succ _) ?_
          refine G.callV P (wd hw (i := 34) rfl) (wd hw (i := 35) rfl) (wd hw (i := 37) rfl) (wd hw (i := 36) rfl) (wd hw (i := 4) rfl) (wd hw (i := 38) rfl) (by decide) O107.1 (argsL := [(.int (Int32.ofNat (255 + 1)))]) (a := b107) (rm6 hw b107 b117 (Int32.ofNat 257) (oupd (cpy (fun _ => 0) (oupd (cpy (fun _ => 0) F106 0 0 255) 255 (nar .byte x98)) 0 0 256) 256 (nar .byte x99)) 512 (255 + 1) h115 O107 Ob117 ne_b107_b117 (by omega) (by omega) P.sz) (by decide) (by decide) (cells' := 4) rfl (slots' := 1283) rfl (by decide) (by decide) (lenOf pd_6 rfl) rfl (rest := []) rfl (W := 0) (Nat.le_of_eq rfl) at_113 (pc' := 116) rfl ?_
          rintro T _ _ P ⟨rfl, rfl⟩
          show Goes p e below s n0 room_1.cells room_1.slots (Q0 Z p0 p1 p2 p3 p4 h0) (T.setTop (mkF m 116 #[.val (.int p0), .val (.int p1), .val (.int p2), .val (.int p3), .val (.int p4), .val (.int (Int32.ofNat 255)), .val (.int x98), .val (.int x99), .val (.ref b100), .val (.ref b107)] [(.int (nar .byte ((oupd (cpy (fun _ => 0) (oupd (cpy (fun _ => 0) F106 0 0 255) 255 (nar .byte x98)) 0 0 256) 256 (nar .byte x99)) (255 + 1))))]))
          generalize hr119 : (nar .byte ((oupd (cpy (fun _ => 0) (oupd (cpy (fun _ => 0) F106 0 0 255) 255 (nar .byte x98)) 0 0 256) 256 (nar .byte x99)) (255 + 1))) = r119
          refine G.iload P at_116 rfl (pc' := 118) rfl ?_
          refine G.icmp_eq P at_118 (by decide) (pcY := 123) (by decide) (pcN := 121) rfl (fun c118 => ?_) (fun c118 => ?_)
          · refine G.iload P at_123 rfl (pc' := 125) rfl ?_
            refine G.if_le P at_125 (by decide) (pcY := 164) (by decide) (pcN := 128) rfl (fun c => absurd c34 c) (fun _ => ?_)
            refine G.aload P at_128 rfl rfl (pc' := 130) rfl ?_
            refine G.iconst P at_130 (v := (0 : Int32)) rfl (pc' := 131) rfl ?_
            refine G.callV P (wd hw (i := 34) rfl) (wd hw (i := 35) rfl) (wd hw (i := 37) rfl) (wd hw (i := 36) rfl) (wd hw (i := 4) rfl) (wd hw (i := 38) rfl) (by decide) O107.1 (argsL := [(.int (0 : Int32))]) (a := b107) (rm6 hw b107 b117 (Int32.ofNat 257) (oupd (cpy (fun _ => 0) (oupd (cpy (fun _ => 0) F106 0 0 255) 255 (nar .byte x98)) 0 0 256) 256 (nar .byte x99)) 512 0 h115 O107 Ob117 ne_b107_b117 (by omega) (by omega) P.sz) (by decide) (by decide) (cells' := 4) rfl (slots' := 1283) rfl (by decide) (by decide) (lenOf pd_6 rfl) rfl (rest := []) rfl (W := 0) (Nat.le_of_eq rfl) at_131 (pc' := 134) rfl ?_
            rintro T _ _ P ⟨rfl, rfl⟩
            show Goes p e below s n0 room_1.cells room_1.slots (Q0 Z p0 p1 p2 p3 p4 h0) (T.setTop (mkF m 134 #[.val (.int p0), .val (.int p1), .val (.int p2), .val (.int p3), .val (.int p4), .val (.int (Int32.ofNat 255)), .val (.int x98), .val (.int x99), .val (.ref b100), .val (.ref b107)] [(.int (nar .byte ((oupd (cpy (fun _ => 0) (oupd (cpy (fun _ => 0) F106 0 0 255) 255 (nar .byte x98)) 0 0 256) 256 (nar .byte x99)) 0)))]))
            generalize hr120 : (nar .byte ((oupd (cpy (fun _ => 0) (oupd (cpy (fun _ => 0) F106 0 0 255) 255 (nar .byte x98)) 0 0 256) 256 (nar .byte x99)) 0)) = r120
            refine G.aload P at_134 rfl rfl (pc' := 136) rfl ?_
            refine G.iconst P at_136 (v := (0 : Int32)) rfl (pc' := 137) rfl ?_
            refine G.baload P A100 (i := 0) (by decide) (by decide) at_137 (pc' := 138) rfl ?_
            generalize hx121 : (F106 0) = x121
            refine G.icmp_eq P at_138 (by decide) (pcY := 143) (by decide) (pcN := 141) rfl (fun c138 => ?_) (fun c138 => ?_)
            · refine G.aload P at_143 rfl rfl (pc' := 145) rfl ?_
              refine G.iload P at_145 rfl (pc' := 147) rfl ?_
              refine G.iconst P at_147 (v := (1 : Int32)) rfl (pc' := 148) rfl ?_
              refine G.isub P at_148 (pc' := 149) rfl ?_
              refine G.top (x' := (Int32.ofNat (255 - 1))) (own_pred (by omega)) ?_
              refine G.callV P (wd hw (i := 34) rfl) (wd hw (i := 35) rfl) (wd hw (i := 37) rfl) (wd hw (i := 36) rfl) (wd hw (i := 4) rfl) (wd hw (i := 38) rfl) (by decide) O107.1 (argsL := [(.int (Int32.ofNat (255 - 1)))]) (a := b107) (rm6 hw b107 b117 (Int32.ofNat 257) (oupd (cpy (fun _ => 0) (oupd (cpy (fun _ => 0) F106 0 0 255) 255 (nar .byte x98)) 0 0 256) 256 (nar .byte x99)) 512 (255 - 1) h115 O107 Ob117 ne_b107_b117 (by omega) (by omega) P.sz) (by decide) (by decide) (cells' := 4) rfl (slots' := 1283) rfl (by decide) (by decide) (lenOf pd_6 rfl) rfl (rest := []) rfl (W := 0) (Nat.le_of_eq rfl) at_149 (pc' := 152) rfl ?_
              rintro T _ _ P ⟨rfl, rfl⟩
              show Goes p e below s n0 room_1.cells room_1.slots (Q0 Z p0 p1 p2 p3 p4 h0) (T.setTop (mkF m 152 #[.val (.int p0), .val (.int p1), .val (.int p2), .val (.int p3), .val (.int p4), .val (.int (Int32.ofNat 255)), .val (.int x98), .val (.int x99), .val (.ref b100), .val (.ref b107)] [(.int (nar .byte ((oupd (cpy (fun _ => 0) (oupd (cpy (fun _ => 0) F106 0 0 255) 255 (nar .byte x98)) 0 0 256) 256 (nar .byte x99)) (255 - 1))))]))
              generalize hr122 : (nar .byte ((oupd (cpy (fun _ => 0) (oupd (cpy (fun _ => 0) F106 0 0 255) 255 (nar .byte x98)) 0 0 256) 256 (nar .byte x99)) (255 - 1))) = r122
              refine G.aload P at_152 rfl rfl (pc' := 154) rfl ?_
              refine G.iload P at_154 rfl (pc' := 156) rfl ?_
              refine G.iconst P at_156 (v := (1 : Int32)) rfl (pc' := 157) rfl ?_
              refine G.isub P at_157 (pc' := 158) rfl ?_
              refine G.top (x' := (Int32.ofNat (255 - 1))) (own_pred (by omega)) ?_
              refine G.baload P A100 (i := (255 - 1)) (own_toInt (by omega)) (by omega) at_158 (pc' := 159) rfl ?_
              generalize hx123 : (F106 (255 - 1)) = x123
              refine G.icmp_eq P at_159 (by decide) (pcY := 164) (by decide) (pcN := 162) rfl (fun c159 => ?_) (fun c159 => ?_)
              · refine G.iconst P at_164 (v := (1 : Int32)) rfl (pc' := 165) rfl ?_
                exact G.ireturnN P (t := .boolean) rfl (by simp) rfl at_165 (by decide) (by decide) ⟨congrArg (fun z => some (Value.int z)) (rfl), trivial⟩
              · exact absurd (hr122.symm.trans ((congrArg (nar .byte) ((own_un (by omega)).trans ((own_cin (by omega)).trans ((own_un (by omega)).trans (own_cin (by omega)))))).trans ((own_nar (hB _ (by omega))).trans hx123))) c159
            · exact absurd (hr120.symm.trans ((congrArg (nar .byte) ((own_un (by omega)).trans ((own_cin (by omega)).trans ((own_un (by omega)).trans (own_cin (by omega)))))).trans ((own_nar (hB _ (by omega))).trans hx121))) c138
          · exact absurd (hr119.symm.trans ((congrArg (nar .byte) (own_us (by omega))).trans (own_nn hx99))) c118
        · exact absurd (hr118.symm.trans ((congrArg (nar .byte) ((own_un (by omega)).trans ((own_cin (by omega)).trans (own_us (by omega))))).trans (own_nn hx98))) c102
      · exact absurd (by decide) c88
  · have hk0 := hk
    refine G.iloadN P at_10 rfl (pc' := 11) rfl ?_
    refine G.i2b P at_11 (pc' := 12) rfl ?_
    obtain ⟨x124, hx124⟩ : ∃ z : Int32, (p1.toInt8.toInt32) = z := ⟨_, rfl⟩
    refine G.istore P at_12 hx124 (L' := #[.val (.int p0), .val (.int p1), .val (.int p2), .val (.int p3), .val (.int p4), .val (.int (Int32.ofNat 256)), .val (.int x124), .unset, .unset, .unset]) rfl (pc' := 14) rfl ?_
    refine G.iloadN P at_14 rfl (pc' := 15) rfl ?_
    refine G.i2b P at_15 (pc' := 16) rfl ?_
    obtain ⟨x125, hx125⟩ : ∃ z : Int32, (p2.toInt8.toInt32) = z := ⟨_, rfl⟩
    refine G.istore P at_16 hx125 (L' := #[.val (.int p0), .val (.int p1), .val (.int p2), .val (.int p3), .val (.int p4), .val (.int (Int32.ofNat 256)), .val (.int x124), .val (.int x125), .unset, .unset]) rfl (pc' := 18) rfl ?_
    refine G.sipush P at_18 (v := (513 : Int32)) rfl (pc' := 21) rfl ?_
    refine G.newarray P (wd hw (i := 1) rfl) rfl (N := 513) (by decide) (cap := 513) (Nat.le_refl _) (by decide) at_21 (cells' := 1) rfl (slots' := 513) rfl (by decide) (by decide) (pc' := 23) rfl ?_
    intro T h126 b126 hb126 g_b126 P E126 A126
    replace A126 : Ints Z h126 b126 .byte 513 (fun _ => 0) := A126
    refine G.astore P at_23 rfl (L' := #[.val (.int p0), .val (.int p1), .val (.int p2), .val (.int p3), .val (.int p4), .val (.int (Int32.ofNat 256)), .val (.int x124), .val (.int x125), .val (.ref b126), .unset]) rfl (pc' := 25) rfl ?_
    refine G.aload P at_25 rfl rfl (pc' := 27) rfl ?_
    refine G.iconst P at_27 (v := (0 : Int32)) rfl (pc' := 28) rfl ?_
    refine G.iload P at_28 rfl (pc' := 30) rfl ?_
    refine G.i2b P at_30 (pc' := 31) rfl ?_
    refine G.bastore P A126 (i := 0) (by decide) (by decide) g_b126 at_31 (pc' := 32) rfl ?_
    intro T h128 P W127
    replace A126 := A126.same W127
    obtain ⟨F129, hF129⟩ : ∃ q : Nat → Int32, (oupd (fun _ => 0) 0 (nar .byte (p4.toInt8.toInt32))) = q := ⟨_, rfl⟩
    rw [hF129] at A126
    refine G.iload P at_32 rfl (pc' := 34) rfl ?_
    refine G.if_le P at_34 (by decide) (pcY := 46) (by decide) (pcN := 37) rfl (fun c34 => ?_) (fun c34 => ?_)
    · exact absurd ((own_lt0 (by omega)).mpr (by omega)) c34
    · refine G.aload P at_37 rfl rfl (pc' := 39) rfl ?_
      refine G.iload P at_39 rfl (pc' := 41) rfl ?_
      refine G.iconst P at_41 (v := (1 : Int32)) rfl (pc' := 42) rfl ?_
      refine G.isub P at_42 (pc' := 43) rfl ?_
      refine G.top (x' := (Int32.ofNat (256 - 1))) (own_pred (by omega)) ?_
      refine G.iloadN P at_43 rfl (pc' := 44) rfl ?_
      refine G.i2b P at_44 (pc' := 45) rfl ?_
      refine G.bastore P A126 (i := (256 - 1)) (own_toInt (by omega)) (by omega) g_b126 at_45 (pc' := 46) rfl ?_
      intro T h131 P W130
      replace A126 := A126.same W130
      obtain ⟨F132, hF132⟩ : ∃ q : Nat → Int32, (oupd F129 (256 - 1) (nar .byte (p3.toInt8.toInt32))) = q := ⟨_, rfl⟩
      rw [hF132] at A126
      have hB : Byt 513 F132 := (by rw [← hF132]; exact own_bytu (by rw [← hF129]; exact own_bytu own_z0))
      refine G.new P (wd hw (i := 2) rfl) (wd hw (i := 3) rfl) (wd hw (i := 4) rfl) at_46 (cells' := 2) rfl (slots' := 515) rfl (by decide) (by decide) (pc' := 49) rfl ?_
      intro T h133 b133 hb133 g_b133 P E133 X133 D133
      have ne_b126_b133 : b126 ≠ b133 := by rw [hb133]; exact Nat.ne_of_lt A126.lt
      replace A126 := A126.ext E133
      have O133 := ObBY.new hw X133 @D133
      refine G.dup P at_49 rfl (pc' := 50) rfl ?_
      refine G.callI P rfl (wd hw (i := 5) rfl) (wd hw (i := 6) rfl) (wd hw (i := 4) rfl) (wd hw (i := 7) rfl) (by decide) (argsL := []) (a := b133) (rm1 hw b133 h133 O133 g_b133 P.sz) (by decide) (by decide) (cells' := 3) rfl (slots' := 771) rfl (by decide) (by decide) (lenOf pd_1 rfl) rfl (rest := [(.ref b133)]) rfl (W := 1) (Nat.le_of_eq rfl) at_50 (pc' := 53) rfl ?_
      have old_b136 := P.sz
      rintro T h134 _ P ⟨b136, rfl, sz_b136, K135, Ob136, O133'⟩
      have g_b136 : n0 ≤ b136 := Nat.le_trans old_b136 sz_b136
      have ne_b126_b136 : b126 ≠ b136 := Nat.ne_of_lt (Nat.lt_of_lt_of_le A126.lt sz_b136)
      have ne_b133_b136 : b133 ≠ b136 := Nat.ne_of_lt (Nat.lt_of_lt_of_le O133.lt sz_b136)
      replace O133 := O133'
      replace A126 := A126.keep K135 (ninS ne_b126_b133 nin0)
      show Goes p e below s n0 room_1.cells room_1.slots (Q0 Z p0 p1 p2 p3 p4 h0) (T.setTop (mkF m 53 #[.val (.int p0), .val (.int p1), .val (.int p2), .val (.int p3), .val (.int p4), .val (.int (Int32.ofNat 256)), .val (.int x124), .val (.int x125), .val (.ref b126), .unset] [(.ref b133)]))
      refine G.astore P at_53 rfl (L' := #[.val (.int p0), .val (.int p1), .val (.int p2), .val (.int p3), .val (.int p4), .val (.int (Int32.ofNat 256)), .val (.int x124), .val (.int x125), .val (.ref b126), .val (.ref b133)]) rfl (pc' := 55) rfl ?_
      refine G.aload P at_55 rfl rfl (pc' := 57) rfl ?_
      refine G.aload P at_57 rfl rfl (pc' := 59) rfl ?_
      refine G.iconst P at_59 (v := (0 : Int32)) rfl (pc' := 60) rfl ?_
      refine G.iload P at_60 rfl (pc' := 62) rfl ?_
      refine G.callV P (wd hw (i := 13) rfl) (wd hw (i := 14) rfl) (wd hw (i := 16) rfl) (wd hw (i := 15) rfl) (wd hw (i := 4) rfl) (wd hw (i := 17) rfl) (by decide) O133.1 (argsL := [(.ref b126), (.int (0 : Int32)), (.int (Int32.ofNat 256))]) (a := b133) (rm3A hw b133 b126 b136 F132 256 h134 O133 Ob136 A126 ne_b133_b136 (Ne.symm ne_b126_b133) (Ne.symm ne_b126_b136) g_b133 g_b136 (by omega) hB P.sz) (by decide) (by decide) (cells' := 3) rfl (slots' := 771) rfl (by decide) (by decide) (lenOf pd_3 rfl) rfl (rest := []) rfl (W := 0) (Nat.le_of_eq rfl) at_62 (pc' := 65) rfl ?_
      clear O133
      clear Ob136
      clear A126
      rintro T h137 _ P ⟨rfl, K138, O133, Ob136, A126⟩
      show Goes p e below s n0 room_1.cells room_1.slots (Q0 Z p0 p1 p2 p3 p4 h0) (T.setTop (mkF m 65 #[.val (.int p0), .val (.int p1), .val (.int p2), .val (.int p3), .val (.int p4), .val (.int (Int32.ofNat 256)), .val (.int x124), .val (.int x125), .val (.ref b126), .val (.ref b133)] []))
      refine G.aload P at_65 rfl rfl (pc' := 67) rfl ?_
      refine G.iload P at_67 rfl (pc' := 69) rfl ?_
      refine G.callV P (wd hw (i := 24) rfl) (wd hw (i := 25) rfl) (wd hw (i := 27) rfl) (wd hw (i := 26) rfl) (wd hw (i := 4) rfl) (wd hw (i := 28) rfl) (by decide) O133.1 (argsL := [(.int x124)]) (a := b133) (rm4Ga hw b133 x124 b136 (cpy (fun _ => 0) F132 0 0 256) h137 O133 Ob136 ne_b133_b136 g_b133 (own_bytc own_z0 hB (by omega)) P.sz) (by decide) (by decide) (cells' := 4) rfl (slots' := 1283) rfl (by decide) (by decide) (lenOf pd_4 rfl) rfl (rest := []) rfl (W := 0) (Nat.le_of_eq rfl) at_69 (pc' := 72) rfl ?_
      have old_b141 := P.sz
      rintro T h139 _ P ⟨b141, rfl, sz_b141, K140, Ob141, O133', Ob136'⟩
      have g_b141 : n0 ≤ b141 := Nat.le_trans old_b141 sz_b141
      have ne_b126_b141 : b126 ≠ b141 := Nat.ne_of_lt (Nat.lt_of_lt_of_le A126.lt sz_b141)
      have ne_b133_b141 : b133 ≠ b141 := Nat.ne_of_lt (Nat.lt_of_lt_of_le O133.lt sz_b141)
      have ne_b136_b141 : b136 ≠ b141 := Nat.ne_of_lt (Nat.lt_of_lt_of_le Ob136.lt sz_b141)
      replace O133 := O133'
      replace Ob136 := Ob136'
      replace A126 := A126.keep K140 (ninS ne_b126_b133 nin0)
      show Goes p e below s n0 room_1.cells room_1.slots (Q0 Z p0 p1 p2 p3 p4 h0) (T.setTop (mkF m 72 #[.val (.int p0), .val (.int p1), .val (.int p2), .val (.int p3), .val (.int p4), .val (.int (Int32.ofNat 256)), .val (.int x124), .val (.int x125), .val (.ref b126), .val (.ref b133)] []))
      refine G.aload P at_72 rfl rfl (pc' := 74) rfl ?_
      refine G.iload P at_74 rfl (pc' := 76) rfl ?_
      refine G.callV P (wd hw (i := 24) rfl) (wd hw (i := 25) rfl) (wd hw (i := 27) rfl) (wd hw (i := 26) rfl) (wd hw (i := 4) rfl) (wd hw (i := 28) rfl) (by decide) O133.1 (argsL := [(.int x125)]) (a := b133) (rm4N hw b133 x125 b141 (oupd (cpy (fun _ => 0) (cpy (fun _ => 0) F132 0 0 256) 0 0 256) 256 (nar .byte x124)) 257 512 h139 O133 Ob141 ne_b133_b141 g_b133 g_b141 (by omega) (by omega) P.sz) (by decide) (by decide) (cells' := 4) rfl (slots' := 1283) rfl (by decide) (by decide) (lenOf pd_4 rfl) rfl (rest := []) rfl (W := 0) (Nat.le_of_eq rfl) at_76 (pc' := 79) rfl ?_
      clear O133
      clear Ob141
      rintro T h142 _ P ⟨rfl, K143, O133, Ob141⟩
      replace A126 := A126.keep K143 (ninS ne_b126_b133 (ninS ne_b126_b141 nin0))
      replace Ob136 := Ob136.keep K143 (ninS (Ne.symm ne_b133_b136) (ninS ne_b136_b141 nin0))
      show Goes p e below s n0 room_1.cells room_1.slots (Q0 Z p0 p1 p2 p3 p4 h0) (T.setTop (mkF m 79 #[.val (.int p0), .val (.int p1), .val (.int p2), .val (.int p3), .val (.int p4), .val (.int (Int32.ofNat 256)), .val (.int x124), .val (.int x125), .val (.ref b126), .val (.ref b133)] []))
      refine G.aload P at_79 rfl rfl (pc' := 81) rfl ?_
      refine G.callV P (wd hw (i := 29) rfl) (wd hw (i := 30) rfl) (wd hw (i := 32) rfl) (wd hw (i := 31) rfl) (wd hw (i := 4) rfl) (wd hw (i := 33) rfl) (by decide) O133.1 (argsL := []) (a := b133) (rm5 hw b133 b141 (Int32.ofNat (257 + 1)) h142 O133 P.sz) (by decide) (by decide) (cells' := 4) rfl (slots' := 1283) rfl (by decide) (by decide) (lenOf pd_5 rfl) rfl (rest := []) rfl (W := 0) (Nat.le_of_eq rfl) at_81 (pc' := 84) rfl ?_
      rintro T _ _ P ⟨rfl, rfl⟩
      show Goes p e below s n0 room_1.cells room_1.slots (Q0 Z p0 p1 p2 p3 p4 h0) (T.setTop (mkF m 84 #[.val (.int p0), .val (.int p1), .val (.int p2), .val (.int p3), .val (.int p4), .val (.int (Int32.ofNat 256)), .val (.int x124), .val (.int x125), .val (.ref b126), .val (.ref b133)] [(.int (Int32.ofNat (257 + 1)))]))
      refine G.iload P at_84 rfl (pc' := 86) rfl ?_
      refine G.iconst P at_86 (v := (2 : Int32)) rfl (pc' := 87) rfl ?_
      refine G.iadd P at_87 (pc' := 88) rfl ?_
      refine G.icmp_eq P at_88 (by decide) (pcY := 93) (by decide) (pcN := 91) rfl (fun c88 => ?_) (fun c88 => ?_)
      · refine G.aload P at_93 rfl rfl (pc' := 95) rfl ?_
        refine G.iload P at_95 rfl (pc' := 97) rfl ?_
        refine G.callV P (wd hw (i := 34) rfl) (wd hw (i := 35) rfl) (wd hw (i := 37) rfl) (wd hw (i := 36) rfl) (wd hw (i := 4) rfl) (wd hw (i := 38) rfl) (by decide) O133.1 (argsL := [(.int (Int32.ofNat 256))]) (a := b133) (rm6 hw b133 b141 (Int32.ofNat (257 + 1)) (oupd (oupd (cpy (fun _ => 0) (cpy (fun _ => 0) F132 0 0 256) 0 0 256) 256 (nar .byte x124)) 257 (nar .byte x125)) 512 256 h142 O133 Ob141 ne_b133_b141 (by omega) (by omega) P.sz) (by decide) (by decide) (cells' := 4) rfl (slots' := 1283) rfl (by decide) (by decide) (lenOf pd_6 rfl) rfl (rest := []) rfl (W := 0) (Nat.le_of_eq rfl) at_97 (pc' := 100) rfl ?_
        rintro T _ _ P ⟨rfl, rfl⟩
        show Goes p e below s n0 room_1.cells room_1.slots (Q0 Z p0 p1 p2 p3 p4 h0) (T.setTop (mkF m 100 #[.val (.int p0), .val (.int p1), .val (.int p2), .val (.int p3), .val (.int p4), .val (.int (Int32.ofNat 256)), .val (.int x124), .val (.int x125), .val (.ref b126), .val (.ref b133)] [(.int (nar .byte ((oupd (oupd (cpy (fun _ => 0) (cpy (fun _ => 0) F132 0 0 256) 0 0 256) 256 (nar .byte x124)) 257 (nar .byte x125)) 256)))]))
        generalize hr144 : (nar .byte ((oupd (oupd (cpy (fun _ => 0) (cpy (fun _ => 0) F132 0 0 256) 0 0 256) 256 (nar .byte x124)) 257 (nar .byte x125)) 256)) = r144
        refine G.iload P at_100 rfl (pc' := 102) rfl ?_
        refine G.icmp_eq P at_102 (by decide) (pcY := 107) (by decide) (pcN := 105) rfl (fun c102 => ?_) (fun c102 => ?_)
        · refine G.aload P at_107 rfl rfl (pc' := 109) rfl ?_
          refine G.iload P at_109 rfl (pc' := 111) rfl ?_
          refine G.iconst P at_111 (v := (1 : Int32)) rfl (pc' := 112) rfl ?_
          refine G.iadd P at_112 (pc' := 113) rfl ?_
          refine G.top (x' := (Int32.ofNat (256 + 1))) (own_succ _) ?_
          refine G.callV P (wd hw (i := 34) rfl) (wd hw (i := 35) rfl) (wd hw (i := 37) rfl) (wd hw (i := 36) rfl) (wd hw (i := 4) rfl) (wd hw (i := 38) rfl) (by decide) O133.1 (argsL := [(.int (Int32.ofNat (256 + 1)))]) (a := b133) (rm6 hw b133 b141 (Int32.ofNat (257 + 1)) (oupd (oupd (cpy (fun _ => 0) (cpy (fun _ => 0) F132 0 0 256) 0 0 256) 256 (nar .byte x124)) 257 (nar .byte x125)) 512 (256 + 1) h142 O133 Ob141 ne_b133_b141 (by omega) (by omega) P.sz) (by decide) (by decide) (cells' := 4) rfl (slots' := 1283) rfl (by decide) (by decide) (lenOf pd_6 rfl) rfl (rest := []) rfl (W := 0) (Nat.le_of_eq rfl) at_113 (pc' := 116) rfl ?_
          rintro T _ _ P ⟨rfl, rfl⟩
          show Goes p e below s n0 room_1.cells room_1.slots (Q0 Z p0 p1 p2 p3 p4 h0) (T.setTop (mkF m 116 #[.val (.int p0), .val (.int p1), .val (.int p2), .val (.int p3), .val (.int p4), .val (.int (Int32.ofNat 256)), .val (.int x124), .val (.int x125), .val (.ref b126), .val (.ref b133)] [(.int (nar .byte ((oupd (oupd (cpy (fun _ => 0) (cpy (fun _ => 0) F132 0 0 256) 0 0 256) 256 (nar .byte x124)) 257 (nar .byte x125)) (256 + 1))))]))
          generalize hr145 : (nar .byte ((oupd (oupd (cpy (fun _ => 0) (cpy (fun _ => 0) F132 0 0 256) 0 0 256) 256 (nar .byte x124)) 257 (nar .byte x125)) (256 + 1))) = r145
          refine G.iload P at_116 rfl (pc' := 118) rfl ?_
          refine G.icmp_eq P at_118 (by decide) (pcY := 123) (by decide) (pcN := 121) rfl (fun c118 => ?_) (fun c118 => ?_)
          · refine G.iload P at_123 rfl (pc' := 125) rfl ?_
            refine G.if_le P at_125 (by decide) (pcY := 164) (by decide) (pcN := 128) rfl (fun c => absurd c34 c) (fun _ => ?_)
            refine G.aload P at_128 rfl rfl (pc' := 130) rfl ?_
            refine G.iconst P at_130 (v := (0 : Int32)) rfl (pc' := 131) rfl ?_
            refine G.callV P (wd hw (i := 34) rfl) (wd hw (i := 35) rfl) (wd hw (i := 37) rfl) (wd hw (i := 36) rfl) (wd hw (i := 4) rfl) (wd hw (i := 38) rfl) (by decide) O133.1 (argsL := [(.int (0 : Int32))]) (a := b133) (rm6 hw b133 b141 (Int32.ofNat (257 + 1)) (oupd (oupd (cpy (fun _ => 0) (cpy (fun _ => 0) F132 0 0 256) 0 0 256) 256 (nar .byte x124)) 257 (nar .byte x125)) 512 0 h142 O133 Ob141 ne_b133_b141 (by omega) (by omega) P.sz) (by decide) (by decide) (cells' := 4) rfl (slots' := 1283) rfl (by decide) (by decide) (lenOf pd_6 rfl) rfl (rest := []) rfl (W := 0) (Nat.le_of_eq rfl) at_131 (pc' := 134) rfl ?_
            rintro T _ _ P ⟨rfl, rfl⟩
            show Goes p e below s n0 room_1.cells room_1.slots (Q0 Z p0 p1 p2 p3 p4 h0) (T.setTop (mkF m 134 #[.val (.int p0), .val (.int p1), .val (.int p2), .val (.int p3), .val (.int p4), .val (.int (Int32.ofNat 256)), .val (.int x124), .val (.int x125), .val (.ref b126), .val (.ref b133)] [(.int (nar .byte ((oupd (oupd (cpy (fun _ => 0) (cpy (fun _ => 0) F132 0 0 256) 0 0 256) 256 (nar .byte x124)) 257 (nar .byte x125)) 0)))]))
            generalize hr146 : (nar .byte ((oupd (oupd (cpy (fun _ => 0) (cpy (fun _ => 0) F132 0 0 256) 0 0 256) 256 (nar .byte x124)) 257 (nar .byte x125)) 0)) = r146
            refine G.aload P at_134 rfl rfl (pc' := 136) rfl ?_
            refine G.iconst P at_136 (v := (0 : Int32)) rfl (pc' := 137) rfl ?_
            refine G.baload P A126 (i := 0) (by decide) (by decide) at_137 (pc' := 138) rfl ?_
            generalize hx147 : (F132 0) = x147
            refine G.icmp_eq P at_138 (by decide) (pcY := 143) (by decide) (pcN := 141) rfl (fun c138 => ?_) (fun c138 => ?_)
            · refine G.aload P at_143 rfl rfl (pc' := 145) rfl ?_
              refine G.iload P at_145 rfl (pc' := 147) rfl ?_
              refine G.iconst P at_147 (v := (1 : Int32)) rfl (pc' := 148) rfl ?_
              refine G.isub P at_148 (pc' := 149) rfl ?_
              refine G.top (x' := (Int32.ofNat (256 - 1))) (own_pred (by omega)) ?_
              refine G.callV P (wd hw (i := 34) rfl) (wd hw (i := 35) rfl) (wd hw (i := 37) rfl) (wd hw (i := 36) rfl) (wd hw (i := 4) rfl) (wd hw (i := 38) rfl) (by decide) O133.1 (argsL := [(.int (Int32.ofNat (256 - 1)))]) (a := b133) (rm6 hw b133 b141 (Int32.ofNat (257 + 1)) (oupd (oupd (cpy (fun _ => 0) (cpy (fun _ => 0) F132 0 0 256) 0 0 256) 256 (nar .byte x124)) 257 (nar .byte x125)) 512 (256 - 1) h142 O133 Ob141 ne_b133_b141 (by omega) (by omega) P.sz) (by decide) (by decide) (cells' := 4) rfl (slots' := 1283) rfl (by decide) (by decide) (lenOf pd_6 rfl) rfl (rest := []) rfl (W := 0) (Nat.le_of_eq rfl) at_149 (pc' := 152) rfl ?_
              rintro T _ _ P ⟨rfl, rfl⟩
              show Goes p e below s n0 room_1.cells room_1.slots (Q0 Z p0 p1 p2 p3 p4 h0) (T.setTop (mkF m 152 #[.val (.int p0), .val (.int p1), .val (.int p2), .val (.int p3), .val (.int p4), .val (.int (Int32.ofNat 256)), .val (.int x124), .val (.int x125), .val (.ref b126), .val (.ref b133)] [(.int (nar .byte ((oupd (oupd (cpy (fun _ => 0) (cpy (fun _ => 0) F132 0 0 256) 0 0 256) 256 (nar .byte x124)) 257 (nar .byte x125)) (256 - 1))))]))
              generalize hr148 : (nar .byte ((oupd (oupd (cpy (fun _ => 0) (cpy (fun _ => 0) F132 0 0 256) 0 0 256) 256 (nar .byte x124)) 257 (nar .byte x125)) (256 - 1))) = r148
              refine G.aload P at_152 rfl rfl (pc' := 154) rfl ?_
              refine G.iload P at_154 rfl (pc' := 156) rfl ?_
              refine G.iconst P at_156 (v := (1 : Int32)) rfl (pc' := 157) rfl ?_
              refine G.isub P at_157 (pc' := 158) rfl ?_
              refine G.top (x' := (Int32.ofNat (256 - 1))) (own_pred (by omega)) ?_
              refine G.baload P A126 (i := (256 - 1)) (own_toInt (by omega)) (by omega) at_158 (pc' := 159) rfl ?_
              generalize hx149 : (F132 (256 - 1)) = x149
              refine G.icmp_eq P at_159 (by decide) (pcY := 164) (by decide) (pcN := 162) rfl (fun c159 => ?_) (fun c159 => ?_)
              · refine G.iconst P at_164 (v := (1 : Int32)) rfl (pc' := 165) rfl ?_
                exact G.ireturnN P (t := .boolean) rfl (by simp) rfl at_165 (by decide) (by decide) ⟨congrArg (fun z => some (Value.int z)) (rfl), trivial⟩
              · exact absurd (hr148.symm.trans ((congrArg (nar .byte) ((own_un (by omega)).trans ((own_un (by omega)).trans ((own_cin (by omega)).trans (own_cin (by omega)))))).trans ((own_nar (hB _ (by omega))).trans hx149))) c159
            · exact absurd (hr146.symm.trans ((congrArg (nar .byte) ((own_un (by omega)).trans ((own_un (by omega)).trans ((own_cin (by omega)).trans (own_cin (by omega)))))).trans ((own_nar (hB _ (by omega))).trans hx147))) c138
          · exact absurd (hr145.symm.trans ((congrArg (nar .byte) (own_us (by omega))).trans (own_nn hx125))) c118
        · exact absurd (hr144.symm.trans ((congrArg (nar .byte) ((own_un (by omega)).trans (own_us (by omega)))).trans (own_nn hx124))) c102
      · exact absurd (by decide) c88
  · have hk0 := hk
    refine G.iloadN P at_10 rfl (pc' := 11) rfl ?_
    refine G.i2b P at_11 (pc' := 12) rfl ?_
    obtain ⟨x150, hx150⟩ : ∃ z : Int32, (p1.toInt8.toInt32) = z := ⟨_, rfl⟩
    refine G.istore P at_12 hx150 (L' := #[.val (.int p0), .val (.int p1), .val (.int p2), .val (.int p3), .val (.int p4), .val (.int (Int32.ofNat k)), .val (.int x150), .unset, .unset, .unset]) rfl (pc' := 14) rfl ?_
    refine G.iloadN P at_14 rfl (pc' := 15) rfl ?_
    refine G.i2b P at_15 (pc' := 16) rfl ?_
    obtain ⟨x151, hx151⟩ : ∃ z : Int32, (p2.toInt8.toInt32) = z := ⟨_, rfl⟩
    refine G.istore P at_16 hx151 (L' := #[.val (.int p0), .val (.int p1), .val (.int p2), .val (.int p3), .val (.int p4), .val (.int (Int32.ofNat k)), .val (.int x150), .val (.int x151), .unset, .unset]) rfl (pc' := 18) rfl ?_
    refine G.sipush P at_18 (v := (513 : Int32)) rfl (pc' := 21) rfl ?_
    refine G.newarray P (wd hw (i := 1) rfl) rfl (N := 513) (by decide) (cap := 513) (Nat.le_refl _) (by decide) at_21 (cells' := 1) rfl (slots' := 513) rfl (by decide) (by decide) (pc' := 23) rfl ?_
    intro T h152 b152 hb152 g_b152 P E152 A152
    replace A152 : Ints Z h152 b152 .byte 513 (fun _ => 0) := A152
    refine G.astore P at_23 rfl (L' := #[.val (.int p0), .val (.int p1), .val (.int p2), .val (.int p3), .val (.int p4), .val (.int (Int32.ofNat k)), .val (.int x150), .val (.int x151), .val (.ref b152), .unset]) rfl (pc' := 25) rfl ?_
    refine G.aload P at_25 rfl rfl (pc' := 27) rfl ?_
    refine G.iconst P at_27 (v := (0 : Int32)) rfl (pc' := 28) rfl ?_
    refine G.iload P at_28 rfl (pc' := 30) rfl ?_
    refine G.i2b P at_30 (pc' := 31) rfl ?_
    refine G.bastore P A152 (i := 0) (by decide) (by decide) g_b152 at_31 (pc' := 32) rfl ?_
    intro T h154 P W153
    replace A152 := A152.same W153
    obtain ⟨F155, hF155⟩ : ∃ q : Nat → Int32, (oupd (fun _ => 0) 0 (nar .byte (p4.toInt8.toInt32))) = q := ⟨_, rfl⟩
    rw [hF155] at A152
    refine G.iload P at_32 rfl (pc' := 34) rfl ?_
    refine G.if_le P at_34 (by decide) (pcY := 46) (by decide) (pcN := 37) rfl (fun c34 => ?_) (fun c34 => ?_)
    · exact absurd ((own_lt0 (by omega)).mpr (by omega)) c34
    · refine G.aload P at_37 rfl rfl (pc' := 39) rfl ?_
      refine G.iload P at_39 rfl (pc' := 41) rfl ?_
      refine G.iconst P at_41 (v := (1 : Int32)) rfl (pc' := 42) rfl ?_
      refine G.isub P at_42 (pc' := 43) rfl ?_
      refine G.top (x' := (Int32.ofNat (k - 1))) (own_pred (by omega)) ?_
      refine G.iloadN P at_43 rfl (pc' := 44) rfl ?_
      refine G.i2b P at_44 (pc' := 45) rfl ?_
      refine G.bastore P A152 (i := (k - 1)) (own_toInt (by omega)) (by omega) g_b152 at_45 (pc' := 46) rfl ?_
      intro T h157 P W156
      replace A152 := A152.same W156
      obtain ⟨F158, hF158⟩ : ∃ q : Nat → Int32, (oupd F155 (k - 1) (nar .byte (p3.toInt8.toInt32))) = q := ⟨_, rfl⟩
      rw [hF158] at A152
      have hB : Byt 513 F158 := (by rw [← hF158]; exact own_bytu (by rw [← hF155]; exact own_bytu own_z0))
      refine G.new P (wd hw (i := 2) rfl) (wd hw (i := 3) rfl) (wd hw (i := 4) rfl) at_46 (cells' := 2) rfl (slots' := 515) rfl (by decide) (by decide) (pc' := 49) rfl ?_
      intro T h159 b159 hb159 g_b159 P E159 X159 D159
      have ne_b152_b159 : b152 ≠ b159 := by rw [hb159]; exact Nat.ne_of_lt A152.lt
      replace A152 := A152.ext E159
      have O159 := ObBY.new hw X159 @D159
      refine G.dup P at_49 rfl (pc' := 50) rfl ?_
      refine G.callI P rfl (wd hw (i := 5) rfl) (wd hw (i := 6) rfl) (wd hw (i := 4) rfl) (wd hw (i := 7) rfl) (by decide) (argsL := []) (a := b159) (rm1 hw b159 h159 O159 g_b159 P.sz) (by decide) (by decide) (cells' := 3) rfl (slots' := 771) rfl (by decide) (by decide) (lenOf pd_1 rfl) rfl (rest := [(.ref b159)]) rfl (W := 1) (Nat.le_of_eq rfl) at_50 (pc' := 53) rfl ?_
      have old_b162 := P.sz
      rintro T h160 _ P ⟨b162, rfl, sz_b162, K161, Ob162, O159'⟩
      have g_b162 : n0 ≤ b162 := Nat.le_trans old_b162 sz_b162
      have ne_b152_b162 : b152 ≠ b162 := Nat.ne_of_lt (Nat.lt_of_lt_of_le A152.lt sz_b162)
      have ne_b159_b162 : b159 ≠ b162 := Nat.ne_of_lt (Nat.lt_of_lt_of_le O159.lt sz_b162)
      replace O159 := O159'
      replace A152 := A152.keep K161 (ninS ne_b152_b159 nin0)
      show Goes p e below s n0 room_1.cells room_1.slots (Q0 Z p0 p1 p2 p3 p4 h0) (T.setTop (mkF m 53 #[.val (.int p0), .val (.int p1), .val (.int p2), .val (.int p3), .val (.int p4), .val (.int (Int32.ofNat k)), .val (.int x150), .val (.int x151), .val (.ref b152), .unset] [(.ref b159)]))
      refine G.astore P at_53 rfl (L' := #[.val (.int p0), .val (.int p1), .val (.int p2), .val (.int p3), .val (.int p4), .val (.int (Int32.ofNat k)), .val (.int x150), .val (.int x151), .val (.ref b152), .val (.ref b159)]) rfl (pc' := 55) rfl ?_
      refine G.aload P at_55 rfl rfl (pc' := 57) rfl ?_
      refine G.aload P at_57 rfl rfl (pc' := 59) rfl ?_
      refine G.iconst P at_59 (v := (0 : Int32)) rfl (pc' := 60) rfl ?_
      refine G.iload P at_60 rfl (pc' := 62) rfl ?_
      refine G.callV P (wd hw (i := 13) rfl) (wd hw (i := 14) rfl) (wd hw (i := 16) rfl) (wd hw (i := 15) rfl) (wd hw (i := 4) rfl) (wd hw (i := 17) rfl) (by decide) O159.1 (argsL := [(.ref b152), (.int (0 : Int32)), (.int (Int32.ofNat k))]) (a := b159) (rm3B hw b159 b152 b162 F158 k h160 O159 Ob162 A152 ne_b159_b162 (Ne.symm ne_b152_b159) (Ne.symm ne_b152_b162) g_b159 (by omega) (by omega) hB P.sz) (by decide) (by decide) (cells' := 4) rfl (slots' := 1283) rfl (by decide) (by decide) (lenOf pd_3 rfl) rfl (rest := []) rfl (W := 0) (Nat.le_of_eq rfl) at_62 (pc' := 65) rfl ?_
      have old_b165 := P.sz
      rintro T h163 _ P ⟨b165, rfl, sz_b165, K164, Ob165, O159', Ob162', A152'⟩
      have g_b165 : n0 ≤ b165 := Nat.le_trans old_b165 sz_b165
      have ne_b152_b165 : b152 ≠ b165 := Nat.ne_of_lt (Nat.lt_of_lt_of_le A152.lt sz_b165)
      have ne_b159_b165 : b159 ≠ b165 := Nat.ne_of_lt (Nat.lt_of_lt_of_le O159.lt sz_b165)
      have ne_b162_b165 : b162 ≠ b165 := Nat.ne_of_lt (Nat.lt_of_lt_of_le Ob162.lt sz_b165)
      replace O159 := O159'
      replace Ob162 := Ob162'
      replace A152 := A152'
      show Goes p e below s n0 room_1.cells room_1.slots (Q0 Z p0 p1 p2 p3 p4 h0) (T.setTop (mkF m 65 #[.val (.int p0), .val (.int p1), .val (.int p2), .val (.int p3), .val (.int p4), .val (.int (Int32.ofNat k)), .val (.int x150), .val (.int x151), .val (.ref b152), .val (.ref b159)] []))
      refine G.aload P at_65 rfl rfl (pc' := 67) rfl ?_
      refine G.iload P at_67 rfl (pc' := 69) rfl ?_
      refine G.callV P (wd hw (i := 24) rfl) (wd hw (i := 25) rfl) (wd hw (i := 27) rfl) (wd hw (i := 26) rfl) (wd hw (i := 4) rfl) (wd hw (i := 28) rfl) (by decide) O159.1 (argsL := [(.int x150)]) (a := b159) (rm4N hw b159 x150 b165 (cpy (cpy (fun _ => 0) (fun _ => 0) 0 0 256) F158 0 0 k) k 512 h163 O159 Ob165 ne_b159_b165 g_b159 g_b165 (by omega) (by omega) P.sz) (by decide) (by decide) (cells' := 4) rfl (slots' := 1283) rfl (by decide) (by decide) (lenOf pd_4 rfl) rfl (rest := []) rfl (W := 0) (Nat.le_of_eq rfl) at_69 (pc' := 72) rfl ?_
      clear O159
      clear Ob165
      rintro T h166 _ P ⟨rfl, K167, O159, Ob165⟩
      replace A152 := A152.keep K167 (ninS ne_b152_b159 (ninS ne_b152_b165 nin0))
      replace Ob162 := Ob162.keep K167 (ninS (Ne.symm ne_b159_b162) (ninS ne_b162_b165 nin0))
      show Goes p e below s n0 room_1.cells room_1.slots (Q0 Z p0 p1 p2 p3 p4 h0) (T.setTop (mkF m 72 #[.val (.int p0), .val (.int p1), .val (.int p2), .val (.int p3), .val (.int p4), .val (.int (Int32.ofNat k)), .val (.int x150), .val (.int x151), .val (.ref b152), .val (.ref b159)] []))
      refine G.aload P at_72 rfl rfl (pc' := 74) rfl ?_
      refine G.iload P at_74 rfl (pc' := 76) rfl ?_
      refine G.callV P (wd hw (i := 24) rfl) (wd hw (i := 25) rfl) (wd hw (i := 27) rfl) (wd hw (i := 26) rfl) (wd hw (i := 4) rfl) (wd hw (i := 28) rfl) (by decide) O159.1 (argsL := [(.int x151)]) (a := b159) (rm4N hw b159 x151 b165 (oupd (cpy (cpy (fun _ => 0) (fun _ => 0) 0 0 256) F158 0 0 k) k (nar .byte x150)) (k + 1) 512 h166 O159 Ob165 ne_b159_b165 g_b159 g_b165 (by omega) (by omega) P.sz) (by decide) (by decide) (cells' := 4) rfl (slots' := 1283) rfl (by decide) (by decide) (lenOf pd_4 rfl) rfl (rest := []) rfl (W := 0) (Nat.le_of_eq rfl) at_76 (pc' := 79) rfl ?_
      clear O159
      clear Ob165
      rintro T h168 _ P ⟨rfl, K169, O159, Ob165⟩
      replace A152 := A152.keep K169 (ninS ne_b152_b159 (ninS ne_b152_b165 nin0))
      replace Ob162 := Ob162.keep K169 (ninS (Ne.symm ne_b159_b162) (ninS ne_b162_b165 nin0))
      show Goes p e below s n0 room_1.cells room_1.slots (Q0 Z p0 p1 p2 p3 p4 h0) (T.setTop (mkF m 79 #[.val (.int p0), .val (.int p1), .val (.int p2), .val (.int p3), .val (.int p4), .val (.int (Int32.ofNat k)), .val (.int x150), .val (.int x151), .val (.ref b152), .val (.ref b159)] []))
      refine G.aload P at_79 rfl rfl (pc' := 81) rfl ?_
      refine G.callV P (wd hw (i := 29) rfl) (wd hw (i := 30) rfl) (wd hw (i := 32) rfl) (wd hw (i := 31) rfl) (wd hw (i := 4) rfl) (wd hw (i := 33) rfl) (by decide) O159.1 (argsL := []) (a := b159) (rm5 hw b159 b165 (Int32.ofNat ((k + 1) + 1)) h168 O159 P.sz) (by decide) (by decide) (cells' := 4) rfl (slots' := 1283) rfl (by decide) (by decide) (lenOf pd_5 rfl) rfl (rest := []) rfl (W := 0) (Nat.le_of_eq rfl) at_81 (pc' := 84) rfl ?_
      rintro T _ _ P ⟨rfl, rfl⟩
      show Goes p e below s n0 room_1.cells room_1.slots (Q0 Z p0 p1 p2 p3 p4 h0) (T.setTop (mkF m 84 #[.val (.int p0), .val (.int p1), .val (.int p2), .val (.int p3), .val (.int p4), .val (.int (Int32.ofNat k)), .val (.int x150), .val (.int x151), .val (.ref b152), .val (.ref b159)] [(.int (Int32.ofNat ((k + 1) + 1)))]))
      refine G.iload P at_84 rfl (pc' := 86) rfl ?_
      refine G.iconst P at_86 (v := (2 : Int32)) rfl (pc' := 87) rfl ?_
      refine G.iadd P at_87 (pc' := 88) rfl ?_
      refine G.icmp_eq P at_88 (by decide) (pcY := 93) (by decide) (pcN := 91) rfl (fun c88 => ?_) (fun c88 => ?_)
      · refine G.aload P at_93 rfl rfl (pc' := 95) rfl ?_
        refine G.iload P at_95 rfl (pc' := 97) rfl ?_
        refine G.callV P (wd hw (i := 34) rfl) (wd hw (i := 35) rfl) (wd hw (i := 37) rfl) (wd hw (i := 36) rfl) (wd hw (i := 4) rfl) (wd hw (i := 38) rfl) (by decide) O159.1 (argsL := [(.int (Int32.ofNat k))]) (a := b159) (rm6 hw b159 b165 (Int32.ofNat ((k + 1) + 1)) (oupd (oupd (cpy (cpy (fun _ => 0) (fun _ => 0) 0 0 256) F158 0 0 k) k (nar .byte x150)) (k + 1) (nar .byte x151)) 512 k h168 O159 Ob165 ne_b159_b165 (by omega) (by omega) P.sz) (by decide) (by decide) (cells' := 4) rfl (slots' := 1283) rfl (by decide) (by decide) (lenOf pd_6 rfl) rfl (rest := []) rfl (W := 0) (Nat.le_of_eq rfl) at_97 (pc' := 100) rfl ?_
        rintro T _ _ P ⟨rfl, rfl⟩
        show Goes p e below s n0 room_1.cells room_1.slots (Q0 Z p0 p1 p2 p3 p4 h0) (T.setTop (mkF m 100 #[.val (.int p0), .val (.int p1), .val (.int p2), .val (.int p3), .val (.int p4), .val (.int (Int32.ofNat k)), .val (.int x150), .val (.int x151), .val (.ref b152), .val (.ref b159)] [(.int (nar .byte ((oupd (oupd (cpy (cpy (fun _ => 0) (fun _ => 0) 0 0 256) F158 0 0 k) k (nar .byte x150)) (k + 1) (nar .byte x151)) k)))]))
        generalize hr170 : (nar .byte ((oupd (oupd (cpy (cpy (fun _ => 0) (fun _ => 0) 0 0 256) F158 0 0 k) k (nar .byte x150)) (k + 1) (nar .byte x151)) k)) = r170
        refine G.iload P at_100 rfl (pc' := 102) rfl ?_
        refine G.icmp_eq P at_102 (by decide) (pcY := 107) (by decide) (pcN := 105) rfl (fun c102 => ?_) (fun c102 => ?_)
        · refine G.aload P at_107 rfl rfl (pc' := 109) rfl ?_
          refine G.iload P at_109 rfl (pc' := 111) rfl ?_
          refine G.iconst P at_111 (v := (1 : Int32)) rfl (pc' := 112) rfl ?_
          refine G.iadd P at_112 (pc' := 113) rfl ?_
          refine G.top (x' := (Int32.ofNat (k + 1))) (own_succ _) ?_
          refine G.callV P (wd hw (i := 34) rfl) (wd hw (i := 35) rfl) (wd hw (i := 37) rfl) (wd hw (i := 36) rfl) (wd hw (i := 4) rfl) (wd hw (i := 38) rfl) (by decide) O159.1 (argsL := [(.int (Int32.ofNat (k + 1)))]) (a := b159) (rm6 hw b159 b165 (Int32.ofNat ((k + 1) + 1)) (oupd (oupd (cpy (cpy (fun _ => 0) (fun _ => 0) 0 0 256) F158 0 0 k) k (nar .byte x150)) (k + 1) (nar .byte x151)) 512 (k + 1) h168 O159 Ob165 ne_b159_b165 (by omega) (by omega) P.sz) (by decide) (by decide) (cells' := 4) rfl (slots' := 1283) rfl (by decide) (by decide) (lenOf pd_6 rfl) rfl (rest := []) rfl (W := 0) (Nat.le_of_eq rfl) at_113 (pc' := 116) rfl ?_
          rintro T _ _ P ⟨rfl, rfl⟩
          show Goes p e below s n0 room_1.cells room_1.slots (Q0 Z p0 p1 p2 p3 p4 h0) (T.setTop (mkF m 116 #[.val (.int p0), .val (.int p1), .val (.int p2), .val (.int p3), .val (.int p4), .val (.int (Int32.ofNat k)), .val (.int x150), .val (.int x151), .val (.ref b152), .val (.ref b159)] [(.int (nar .byte ((oupd (oupd (cpy (cpy (fun _ => 0) (fun _ => 0) 0 0 256) F158 0 0 k) k (nar .byte x150)) (k + 1) (nar .byte x151)) (k + 1))))]))
          generalize hr171 : (nar .byte ((oupd (oupd (cpy (cpy (fun _ => 0) (fun _ => 0) 0 0 256) F158 0 0 k) k (nar .byte x150)) (k + 1) (nar .byte x151)) (k + 1))) = r171
          refine G.iload P at_116 rfl (pc' := 118) rfl ?_
          refine G.icmp_eq P at_118 (by decide) (pcY := 123) (by decide) (pcN := 121) rfl (fun c118 => ?_) (fun c118 => ?_)
          · refine G.iload P at_123 rfl (pc' := 125) rfl ?_
            refine G.if_le P at_125 (by decide) (pcY := 164) (by decide) (pcN := 128) rfl (fun c => absurd c34 c) (fun _ => ?_)
            refine G.aload P at_128 rfl rfl (pc' := 130) rfl ?_
            refine G.iconst P at_130 (v := (0 : Int32)) rfl (pc' := 131) rfl ?_
            refine G.callV P (wd hw (i := 34) rfl) (wd hw (i := 35) rfl) (wd hw (i := 37) rfl) (wd hw (i := 36) rfl) (wd hw (i := 4) rfl) (wd hw (i := 38) rfl) (by decide) O159.1 (argsL := [(.int (0 : Int32))]) (a := b159) (rm6 hw b159 b165 (Int32.ofNat ((k + 1) + 1)) (oupd (oupd (cpy (cpy (fun _ => 0) (fun _ => 0) 0 0 256) F158 0 0 k) k (nar .byte x150)) (k + 1) (nar .byte x151)) 512 0 h168 O159 Ob165 ne_b159_b165 (by omega) (by omega) P.sz) (by decide) (by decide) (cells' := 4) rfl (slots' := 1283) rfl (by decide) (by decide) (lenOf pd_6 rfl) rfl (rest := []) rfl (W := 0) (Nat.le_of_eq rfl) at_131 (pc' := 134) rfl ?_
            rintro T _ _ P ⟨rfl, rfl⟩
            show Goes p e below s n0 room_1.cells room_1.slots (Q0 Z p0 p1 p2 p3 p4 h0) (T.setTop (mkF m 134 #[.val (.int p0), .val (.int p1), .val (.int p2), .val (.int p3), .val (.int p4), .val (.int (Int32.ofNat k)), .val (.int x150), .val (.int x151), .val (.ref b152), .val (.ref b159)] [(.int (nar .byte ((oupd (oupd (cpy (cpy (fun _ => 0) (fun _ => 0) 0 0 256) F158 0 0 k) k (nar .byte x150)) (k + 1) (nar .byte x151)) 0)))]))
            generalize hr172 : (nar .byte ((oupd (oupd (cpy (cpy (fun _ => 0) (fun _ => 0) 0 0 256) F158 0 0 k) k (nar .byte x150)) (k + 1) (nar .byte x151)) 0)) = r172
            refine G.aload P at_134 rfl rfl (pc' := 136) rfl ?_
            refine G.iconst P at_136 (v := (0 : Int32)) rfl (pc' := 137) rfl ?_
            refine G.baload P A152 (i := 0) (by decide) (by decide) at_137 (pc' := 138) rfl ?_
            generalize hx173 : (F158 0) = x173
            refine G.icmp_eq P at_138 (by decide) (pcY := 143) (by decide) (pcN := 141) rfl (fun c138 => ?_) (fun c138 => ?_)
            · refine G.aload P at_143 rfl rfl (pc' := 145) rfl ?_
              refine G.iload P at_145 rfl (pc' := 147) rfl ?_
              refine G.iconst P at_147 (v := (1 : Int32)) rfl (pc' := 148) rfl ?_
              refine G.isub P at_148 (pc' := 149) rfl ?_
              refine G.top (x' := (Int32.ofNat (k - 1))) (own_pred (by omega)) ?_
              refine G.callV P (wd hw (i := 34) rfl) (wd hw (i := 35) rfl) (wd hw (i := 37) rfl) (wd hw (i := 36) rfl) (wd hw (i := 4) rfl) (wd hw (i := 38) rfl) (by decide) O159.1 (argsL := [(.int (Int32.ofNat (k - 1)))]) (a := b159) (rm6 hw b159 b165 (Int32.ofNat ((k + 1) + 1)) (oupd (oupd (cpy (cpy (fun _ => 0) (fun _ => 0) 0 0 256) F158 0 0 k) k (nar .byte x150)) (k + 1) (nar .byte x151)) 512 (k - 1) h168 O159 Ob165 ne_b159_b165 (by omega) (by omega) P.sz) (by decide) (by decide) (cells' := 4) rfl (slots' := 1283) rfl (by decide) (by decide) (lenOf pd_6 rfl) rfl (rest := []) rfl (W := 0) (Nat.le_of_eq rfl) at_149 (pc' := 152) rfl ?_
              rintro T _ _ P ⟨rfl, rfl⟩
              show Goes p e below s n0 room_1.cells room_1.slots (Q0 Z p0 p1 p2 p3 p4 h0) (T.setTop (mkF m 152 #[.val (.int p0), .val (.int p1), .val (.int p2), .val (.int p3), .val (.int p4), .val (.int (Int32.ofNat k)), .val (.int x150), .val (.int x151), .val (.ref b152), .val (.ref b159)] [(.int (nar .byte ((oupd (oupd (cpy (cpy (fun _ => 0) (fun _ => 0) 0 0 256) F158 0 0 k) k (nar .byte x150)) (k + 1) (nar .byte x151)) (k - 1))))]))
              generalize hr174 : (nar .byte ((oupd (oupd (cpy (cpy (fun _ => 0) (fun _ => 0) 0 0 256) F158 0 0 k) k (nar .byte x150)) (k + 1) (nar .byte x151)) (k - 1))) = r174
              refine G.aload P at_152 rfl rfl (pc' := 154) rfl ?_
              refine G.iload P at_154 rfl (pc' := 156) rfl ?_
              refine G.iconst P at_156 (v := (1 : Int32)) rfl (pc' := 157) rfl ?_
              refine G.isub P at_157 (pc' := 158) rfl ?_
              refine G.top (x' := (Int32.ofNat (k - 1))) (own_pred (by omega)) ?_
              refine G.baload P A152 (i := (k - 1)) (own_toInt (by omega)) (by omega) at_158 (pc' := 159) rfl ?_
              generalize hx175 : (F158 (k - 1)) = x175
              refine G.icmp_eq P at_159 (by decide) (pcY := 164) (by decide) (pcN := 162) rfl (fun c159 => ?_) (fun c159 => ?_)
              · refine G.iconst P at_164 (v := (1 : Int32)) rfl (pc' := 165) rfl ?_
                exact G.ireturnN P (t := .boolean) rfl (by simp) rfl at_165 (by decide) (by decide) ⟨congrArg (fun z => some (Value.int z)) (rfl), trivial⟩
              · exact absurd (hr174.symm.trans ((congrArg (nar .byte) ((own_un (by omega)).trans ((own_un (by omega)).trans (own_cin (by omega))))).trans ((own_nar (hB _ (by omega))).trans hx175))) c159
            · exact absurd (hr172.symm.trans ((congrArg (nar .byte) ((own_un (by omega)).trans ((own_un (by omega)).trans (own_cin (by omega))))).trans ((own_nar (hB _ (by omega))).trans hx173))) c138
          · exact absurd (hr171.symm.trans ((congrArg (nar .byte) (own_us (by omega))).trans (own_nn hx151))) c118
        · exact absurd (hr170.symm.trans ((congrArg (nar .byte) ((own_un (by omega)).trans (own_us (by omega)))).trans (own_nn hx150))) c102
      · exact absurd (Int32.ofNat_add k 2) c88
  · have hk0 := hk
    refine G.iloadN P at_10 rfl (pc' := 11) rfl ?_
    refine G.i2b P at_11 (pc' := 12) rfl ?_
    obtain ⟨x176, hx176⟩ : ∃ z : Int32, (p1.toInt8.toInt32) = z := ⟨_, rfl⟩
    refine G.istore P at_12 hx176 (L' := #[.val (.int p0), .val (.int p1), .val (.int p2), .val (.int p3), .val (.int p4), .val (.int (Int32.ofNat 511)), .val (.int x176), .unset, .unset, .unset]) rfl (pc' := 14) rfl ?_
    refine G.iloadN P at_14 rfl (pc' := 15) rfl ?_
    refine G.i2b P at_15 (pc' := 16) rfl ?_
    obtain ⟨x177, hx177⟩ : ∃ z : Int32, (p2.toInt8.toInt32) = z := ⟨_, rfl⟩
    refine G.istore P at_16 hx177 (L' := #[.val (.int p0), .val (.int p1), .val (.int p2), .val (.int p3), .val (.int p4), .val (.int (Int32.ofNat 511)), .val (.int x176), .val (.int x177), .unset, .unset]) rfl (pc' := 18) rfl ?_
    refine G.sipush P at_18 (v := (513 : Int32)) rfl (pc' := 21) rfl ?_
    refine G.newarray P (wd hw (i := 1) rfl) rfl (N := 513) (by decide) (cap := 513) (Nat.le_refl _) (by decide) at_21 (cells' := 1) rfl (slots' := 513) rfl (by decide) (by decide) (pc' := 23) rfl ?_
    intro T h178 b178 hb178 g_b178 P E178 A178
    replace A178 : Ints Z h178 b178 .byte 513 (fun _ => 0) := A178
    refine G.astore P at_23 rfl (L' := #[.val (.int p0), .val (.int p1), .val (.int p2), .val (.int p3), .val (.int p4), .val (.int (Int32.ofNat 511)), .val (.int x176), .val (.int x177), .val (.ref b178), .unset]) rfl (pc' := 25) rfl ?_
    refine G.aload P at_25 rfl rfl (pc' := 27) rfl ?_
    refine G.iconst P at_27 (v := (0 : Int32)) rfl (pc' := 28) rfl ?_
    refine G.iload P at_28 rfl (pc' := 30) rfl ?_
    refine G.i2b P at_30 (pc' := 31) rfl ?_
    refine G.bastore P A178 (i := 0) (by decide) (by decide) g_b178 at_31 (pc' := 32) rfl ?_
    intro T h180 P W179
    replace A178 := A178.same W179
    obtain ⟨F181, hF181⟩ : ∃ q : Nat → Int32, (oupd (fun _ => 0) 0 (nar .byte (p4.toInt8.toInt32))) = q := ⟨_, rfl⟩
    rw [hF181] at A178
    refine G.iload P at_32 rfl (pc' := 34) rfl ?_
    refine G.if_le P at_34 (by decide) (pcY := 46) (by decide) (pcN := 37) rfl (fun c34 => ?_) (fun c34 => ?_)
    · exact absurd ((own_lt0 (by omega)).mpr (by omega)) c34
    · refine G.aload P at_37 rfl rfl (pc' := 39) rfl ?_
      refine G.iload P at_39 rfl (pc' := 41) rfl ?_
      refine G.iconst P at_41 (v := (1 : Int32)) rfl (pc' := 42) rfl ?_
      refine G.isub P at_42 (pc' := 43) rfl ?_
      refine G.top (x' := (Int32.ofNat (511 - 1))) (own_pred (by omega)) ?_
      refine G.iloadN P at_43 rfl (pc' := 44) rfl ?_
      refine G.i2b P at_44 (pc' := 45) rfl ?_
      refine G.bastore P A178 (i := (511 - 1)) (own_toInt (by omega)) (by omega) g_b178 at_45 (pc' := 46) rfl ?_
      intro T h183 P W182
      replace A178 := A178.same W182
      obtain ⟨F184, hF184⟩ : ∃ q : Nat → Int32, (oupd F181 (511 - 1) (nar .byte (p3.toInt8.toInt32))) = q := ⟨_, rfl⟩
      rw [hF184] at A178
      have hB : Byt 513 F184 := (by rw [← hF184]; exact own_bytu (by rw [← hF181]; exact own_bytu own_z0))
      refine G.new P (wd hw (i := 2) rfl) (wd hw (i := 3) rfl) (wd hw (i := 4) rfl) at_46 (cells' := 2) rfl (slots' := 515) rfl (by decide) (by decide) (pc' := 49) rfl ?_
      intro T h185 b185 hb185 g_b185 P E185 X185 D185
      have ne_b178_b185 : b178 ≠ b185 := by rw [hb185]; exact Nat.ne_of_lt A178.lt
      replace A178 := A178.ext E185
      have O185 := ObBY.new hw X185 @D185
      refine G.dup P at_49 rfl (pc' := 50) rfl ?_
      refine G.callI P rfl (wd hw (i := 5) rfl) (wd hw (i := 6) rfl) (wd hw (i := 4) rfl) (wd hw (i := 7) rfl) (by decide) (argsL := []) (a := b185) (rm1 hw b185 h185 O185 g_b185 P.sz) (by decide) (by decide) (cells' := 3) rfl (slots' := 771) rfl (by decide) (by decide) (lenOf pd_1 rfl) rfl (rest := [(.ref b185)]) rfl (W := 1) (Nat.le_of_eq rfl) at_50 (pc' := 53) rfl ?_
      have old_b188 := P.sz
      rintro T h186 _ P ⟨b188, rfl, sz_b188, K187, Ob188, O185'⟩
      have g_b188 : n0 ≤ b188 := Nat.le_trans old_b188 sz_b188
      have ne_b178_b188 : b178 ≠ b188 := Nat.ne_of_lt (Nat.lt_of_lt_of_le A178.lt sz_b188)
      have ne_b185_b188 : b185 ≠ b188 := Nat.ne_of_lt (Nat.lt_of_lt_of_le O185.lt sz_b188)
      replace O185 := O185'
      replace A178 := A178.keep K187 (ninS ne_b178_b185 nin0)
      show Goes p e below s n0 room_1.cells room_1.slots (Q0 Z p0 p1 p2 p3 p4 h0) (T.setTop (mkF m 53 #[.val (.int p0), .val (.int p1), .val (.int p2), .val (.int p3), .val (.int p4), .val (.int (Int32.ofNat 511)), .val (.int x176), .val (.int x177), .val (.ref b178), .unset] [(.ref b185)]))
      refine G.astore P at_53 rfl (L' := #[.val (.int p0), .val (.int p1), .val (.int p2), .val (.int p3), .val (.int p4), .val (.int (Int32.ofNat 511)), .val (.int x176), .val (.int x177), .val (.ref b178), .val (.ref b185)]) rfl (pc' := 55) rfl ?_
      refine G.aload P at_55 rfl rfl (pc' := 57) rfl ?_
      refine G.aload P at_57 rfl rfl (pc' := 59) rfl ?_
      refine G.iconst P at_59 (v := (0 : Int32)) rfl (pc' := 60) rfl ?_
      refine G.iload P at_60 rfl (pc' := 62) rfl ?_
      refine G.callV P (wd hw (i := 13) rfl) (wd hw (i := 14) rfl) (wd hw (i := 16) rfl) (wd hw (i := 15) rfl) (wd hw (i := 4) rfl) (wd hw (i := 17) rfl) (by decide) O185.1 (argsL := [(.ref b178), (.int (0 : Int32)), (.int (Int32.ofNat 511))]) (a := b185) (rm3B hw b185 b178 b188 F184 511 h186 O185 Ob188 A178 ne_b185_b188 (Ne.symm ne_b178_b185) (Ne.symm ne_b178_b188) g_b185 (by omega) (by omega) hB P.sz) (by decide) (by decide) (cells' := 4) rfl (slots' := 1283) rfl (by decide) (by decide) (lenOf pd_3 rfl) rfl (rest := []) rfl (W := 0) (Nat.le_of_eq rfl) at_62 (pc' := 65) rfl ?_
      have old_b191 := P.sz
      rintro T h189 _ P ⟨b191, rfl, sz_b191, K190, Ob191, O185', Ob188', A178'⟩
      have g_b191 : n0 ≤ b191 := Nat.le_trans old_b191 sz_b191
      have ne_b178_b191 : b178 ≠ b191 := Nat.ne_of_lt (Nat.lt_of_lt_of_le A178.lt sz_b191)
      have ne_b185_b191 : b185 ≠ b191 := Nat.ne_of_lt (Nat.lt_of_lt_of_le O185.lt sz_b191)
      have ne_b188_b191 : b188 ≠ b191 := Nat.ne_of_lt (Nat.lt_of_lt_of_le Ob188.lt sz_b191)
      replace O185 := O185'
      replace Ob188 := Ob188'
      replace A178 := A178'
      show Goes p e below s n0 room_1.cells room_1.slots (Q0 Z p0 p1 p2 p3 p4 h0) (T.setTop (mkF m 65 #[.val (.int p0), .val (.int p1), .val (.int p2), .val (.int p3), .val (.int p4), .val (.int (Int32.ofNat 511)), .val (.int x176), .val (.int x177), .val (.ref b178), .val (.ref b185)] []))
      refine G.aload P at_65 rfl rfl (pc' := 67) rfl ?_
      refine G.iload P at_67 rfl (pc' := 69) rfl ?_
      refine G.callV P (wd hw (i := 24) rfl) (wd hw (i := 25) rfl) (wd hw (i := 27) rfl) (wd hw (i := 26) rfl) (wd hw (i := 4) rfl) (wd hw (i := 28) rfl) (by decide) O185.1 (argsL := [(.int x176)]) (a := b185) (rm4N hw b185 x176 b191 (cpy (cpy (fun _ => 0) (fun _ => 0) 0 0 256) F184 0 0 511) 511 512 h189 O185 Ob191 ne_b185_b191 g_b185 g_b191 (by omega) (by omega) P.sz) (by decide) (by decide) (cells' := 4) rfl (slots' := 1283) rfl (by decide) (by decide) (lenOf pd_4 rfl) rfl (rest := []) rfl (W := 0) (Nat.le_of_eq rfl) at_69 (pc' := 72) rfl ?_
      clear O185
      clear Ob191
      rintro T h192 _ P ⟨rfl, K193, O185, Ob191⟩
      replace A178 := A178.keep K193 (ninS ne_b178_b185 (ninS ne_b178_b191 nin0))
      replace Ob188 := Ob188.keep K193 (ninS (Ne.symm ne_b185_b188) (ninS ne_b188_b191 nin0))
      show Goes p e below s n0 room_1.cells room_1.slots (Q0 Z p0 p1 p2 p3 p4 h0) (T.setTop (mkF m 72 #[.val (.int p0), .val (.int p1), .val (.int p2), .val (.int p3), .val (.int p4), .val (.int (Int32.ofNat 511)), .val (.int x176), .val (.int x177), .val (.ref b178), .val (.ref b185)] []))
      refine G.aload P at_72 rfl rfl (pc' := 74) rfl ?_
      refine G.iload P at_74 rfl (pc' := 76) rfl ?_
      refine G.callV P (wd hw (i := 24) rfl) (wd hw (i := 25) rfl) (wd hw (i := 27) rfl) (wd hw (i := 26) rfl) (wd hw (i := 4) rfl) (wd hw (i := 28) rfl) (by decide) O185.1 (argsL := [(.int x177)]) (a := b185) (rm4Gb hw b185 x177 b191 (oupd (cpy (cpy (fun _ => 0) (fun _ => 0) 0 0 256) F184 0 0 511) 511 (nar .byte x176)) h192 O185 Ob191 ne_b185_b191 g_b185 (own_bytu (own_bytc (own_bytc own_z0 (own_z0 (n := 256)) (by omega)) hB (by omega))) P.sz) (by decide) (by decide) (cells' := 5) rfl (slots' := 2307) rfl (by decide) (by decide) (lenOf pd_4 rfl) rfl (rest := []) rfl (W := 0) (Nat.le_of_eq rfl) at_76 (pc' := 79) rfl ?_
      have old_b196 := P.sz
      rintro T h194 _ P ⟨b196, rfl, sz_b196, K195, Ob196, O185', Ob191'⟩
      have g_b196 : n0 ≤ b196 := Nat.le_trans old_b196 sz_b196
      have ne_b178_b196 : b178 ≠ b196 := Nat.ne_of_lt (Nat.lt_of_lt_of_le A178.lt sz_b196)
      have ne_b185_b196 : b185 ≠ b196 := Nat.ne_of_lt (Nat.lt_of_lt_of_le O185.lt sz_b196)
      have ne_b188_b196 : b188 ≠ b196 := Nat.ne_of_lt (Nat.lt_of_lt_of_le Ob188.lt sz_b196)
      have ne_b191_b196 : b191 ≠ b196 := Nat.ne_of_lt (Nat.lt_of_lt_of_le Ob191.lt sz_b196)
      replace O185 := O185'
      replace Ob191 := Ob191'
      replace A178 := A178.keep K195 (ninS ne_b178_b185 nin0)
      replace Ob188 := Ob188.keep K195 (ninS (Ne.symm ne_b185_b188) nin0)
      show Goes p e below s n0 room_1.cells room_1.slots (Q0 Z p0 p1 p2 p3 p4 h0) (T.setTop (mkF m 79 #[.val (.int p0), .val (.int p1), .val (.int p2), .val (.int p3), .val (.int p4), .val (.int (Int32.ofNat 511)), .val (.int x176), .val (.int x177), .val (.ref b178), .val (.ref b185)] []))
      refine G.aload P at_79 rfl rfl (pc' := 81) rfl ?_
      refine G.callV P (wd hw (i := 29) rfl) (wd hw (i := 30) rfl) (wd hw (i := 32) rfl) (wd hw (i := 31) rfl) (wd hw (i := 4) rfl) (wd hw (i := 33) rfl) (by decide) O185.1 (argsL := []) (a := b185) (rm5 hw b185 b196 (Int32.ofNat 513) h194 O185 P.sz) (by decide) (by decide) (cells' := 5) rfl (slots' := 2307) rfl (by decide) (by decide) (lenOf pd_5 rfl) rfl (rest := []) rfl (W := 0) (Nat.le_of_eq rfl) at_81 (pc' := 84) rfl ?_
      rintro T _ _ P ⟨rfl, rfl⟩
      show Goes p e below s n0 room_1.cells room_1.slots (Q0 Z p0 p1 p2 p3 p4 h0) (T.setTop (mkF m 84 #[.val (.int p0), .val (.int p1), .val (.int p2), .val (.int p3), .val (.int p4), .val (.int (Int32.ofNat 511)), .val (.int x176), .val (.int x177), .val (.ref b178), .val (.ref b185)] [(.int (Int32.ofNat 513))]))
      refine G.iload P at_84 rfl (pc' := 86) rfl ?_
      refine G.iconst P at_86 (v := (2 : Int32)) rfl (pc' := 87) rfl ?_
      refine G.iadd P at_87 (pc' := 88) rfl ?_
      refine G.icmp_eq P at_88 (by decide) (pcY := 93) (by decide) (pcN := 91) rfl (fun c88 => ?_) (fun c88 => ?_)
      · refine G.aload P at_93 rfl rfl (pc' := 95) rfl ?_
        refine G.iload P at_95 rfl (pc' := 97) rfl ?_
        refine G.callV P (wd hw (i := 34) rfl) (wd hw (i := 35) rfl) (wd hw (i := 37) rfl) (wd hw (i := 36) rfl) (wd hw (i := 4) rfl) (wd hw (i := 38) rfl) (by decide) O185.1 (argsL := [(.int (Int32.ofNat 511))]) (a := b185) (rm6 hw b185 b196 (Int32.ofNat 513) (oupd (cpy (fun _ => 0) (oupd (cpy (cpy (fun _ => 0) (fun _ => 0) 0 0 256) F184 0 0 511) 511 (nar .byte x176)) 0 0 512) 512 (nar .byte x177)) 1024 511 h194 O185 Ob196 ne_b185_b196 (by omega) (by omega) P.sz) (by decide) (by decide) (cells' := 5) rfl (slots' := 2307) rfl (by decide) (by decide) (lenOf pd_6 rfl) rfl (rest := []) rfl (W := 0) (Nat.le_of_eq rfl) at_97 (pc' := 100) rfl ?_
        rintro T _ _ P ⟨rfl, rfl⟩
        show Goes p e below s n0 room_1.cells room_1.slots (Q0 Z p0 p1 p2 p3 p4 h0) (T.setTop (mkF m 100 #[.val (.int p0), .val (.int p1), .val (.int p2), .val (.int p3), .val (.int p4), .val (.int (Int32.ofNat 511)), .val (.int x176), .val (.int x177), .val (.ref b178), .val (.ref b185)] [(.int (nar .byte ((oupd (cpy (fun _ => 0) (oupd (cpy (cpy (fun _ => 0) (fun _ => 0) 0 0 256) F184 0 0 511) 511 (nar .byte x176)) 0 0 512) 512 (nar .byte x177)) 511)))]))
        generalize hr197 : (nar .byte ((oupd (cpy (fun _ => 0) (oupd (cpy (cpy (fun _ => 0) (fun _ => 0) 0 0 256) F184 0 0 511) 511 (nar .byte x176)) 0 0 512) 512 (nar .byte x177)) 511)) = r197
        refine G.iload P at_100 rfl (pc' := 102) rfl ?_
        refine G.icmp_eq P at_102 (by decide) (pcY := 107) (by decide) (pcN := 105) rfl (fun c102 => ?_) (fun c102 => ?_)
        · refine G.aload P at_107 rfl rfl (pc' := 109) rfl ?_
          refine G.iload P at_109 rfl (pc' := 111) rfl ?_
          refine G.iconst P at_111 (v := (1 : Int32)) rfl (pc' := 112) rfl ?_
          refine G.iadd P at_112 (pc' := 113) rfl ?_
          refine G.top (x' := (Int32.ofNat (511 + 1))) (own_succ _) ?_
          refine G.callV P (wd hw (i := 34) rfl) (wd hw (i := 35) rfl) (wd hw (i := 37) rfl) (wd hw (i := 36) rfl) (wd hw (i := 4) rfl) (wd hw (i := 38) rfl) (by decide) O185.1 (argsL := [(.int (Int32.ofNat (511 + 1)))]) (a := b185) (rm6 hw b185 b196 (Int32.ofNat 513) (oupd (cpy (fun _ => 0) (oupd (cpy (cpy (fun _ => 0) (fun _ => 0) 0 0 256) F184 0 0 511) 511 (nar .byte x176)) 0 0 512) 512 (nar .byte x177)) 1024 (511 + 1) h194 O185 Ob196 ne_b185_b196 (by omega) (by omega) P.sz) (by decide) (by decide) (cells' := 5) rfl (slots' := 2307) rfl (by decide) (by decide) (lenOf pd_6 rfl) rfl (rest := []) rfl (W := 0) (Nat.le_of_eq rfl) at_113 (pc' := 116) rfl ?_
          rintro T _ _ P ⟨rfl, rfl⟩
          show Goes p e below s n0 room_1.cells room_1.slots (Q0 Z p0 p1 p2 p3 p4 h0) (T.setTop (mkF m 116 #[.val (.int p0), .val (.int p1), .val (.int p2), .val (.int p3), .val (.int p4), .val (.int (Int32.ofNat 511)), .val (.int x176), .val (.int x177), .val (.ref b178), .val (.ref b185)] [(.int (nar .byte ((oupd (cpy (fun _ => 0) (oupd (cpy (cpy (fun _ => 0) (fun _ => 0) 0 0 256) F184 0 0 511) 511 (nar .byte x176)) 0 0 512) 512 (nar .byte x177)) (511 + 1))))]))
          generalize hr198 : (nar .byte ((oupd (cpy (fun _ => 0) (oupd (cpy (cpy (fun _ => 0) (fun _ => 0) 0 0 256) F184 0 0 511) 511 (nar .byte x176)) 0 0 512) 512 (nar .byte x177)) (511 + 1))) = r198
          refine G.iload P at_116 rfl (pc' := 118) rfl ?_
          refine G.icmp_eq P at_118 (by decide) (pcY := 123) (by decide) (pcN := 121) rfl (fun c118 => ?_) (fun c118 => ?_)
          · refine G.iload P at_123 rfl (pc' := 125) rfl ?_
            refine G.if_le P at_125 (by decide) (pcY := 164) (by decide) (pcN := 128) rfl (fun c => absurd c34 c) (fun _ => ?_)
            refine G.aload P at_128 rfl rfl (pc' := 130) rfl ?_
            refine G.iconst P at_130 (v := (0 : Int32)) rfl (pc' := 131) rfl ?_
            refine G.callV P (wd hw (i := 34) rfl) (wd hw (i := 35) rfl) (wd hw (i := 37) rfl) (wd hw (i := 36) rfl) (wd hw (i := 4) rfl) (wd hw (i := 38) rfl) (by decide) O185.1 (argsL := [(.int (0 : Int32))]) (a := b185) (rm6 hw b185 b196 (Int32.ofNat 513) (oupd (cpy (fun _ => 0) (oupd (cpy (cpy (fun _ => 0) (fun _ => 0) 0 0 256) F184 0 0 511) 511 (nar .byte x176)) 0 0 512) 512 (nar .byte x177)) 1024 0 h194 O185 Ob196 ne_b185_b196 (by omega) (by omega) P.sz) (by decide) (by decide) (cells' := 5) rfl (slots' := 2307) rfl (by decide) (by decide) (lenOf pd_6 rfl) rfl (rest := []) rfl (W := 0) (Nat.le_of_eq rfl) at_131 (pc' := 134) rfl ?_
            rintro T _ _ P ⟨rfl, rfl⟩
            show Goes p e below s n0 room_1.cells room_1.slots (Q0 Z p0 p1 p2 p3 p4 h0) (T.setTop (mkF m 134 #[.val (.int p0), .val (.int p1), .val (.int p2), .val (.int p3), .val (.int p4), .val (.int (Int32.ofNat 511)), .val (.int x176), .val (.int x177), .val (.ref b178), .val (.ref b185)] [(.int (nar .byte ((oupd (cpy (fun _ => 0) (oupd (cpy (cpy (fun _ => 0) (fun _ => 0) 0 0 256) F184 0 0 511) 511 (nar .byte x176)) 0 0 512) 512 (nar .byte x177)) 0)))]))
            generalize hr199 : (nar .byte ((oupd (cpy (fun _ => 0) (oupd (cpy (cpy (fun _ => 0) (fun _ => 0) 0 0 256) F184 0 0 511) 511 (nar .byte x176)) 0 0 512) 512 (nar .byte x177)) 0)) = r199
            refine G.aload P at_134 rfl rfl (pc' := 136) rfl ?_
            refine G.iconst P at_136 (v := (0 : Int32)) rfl (pc' := 137) rfl ?_
            refine G.baload P A178 (i := 0) (by decide) (by decide) at_137 (pc' := 138) rfl ?_
            generalize hx200 : (F184 0) = x200
            refine G.icmp_eq P at_138 (by decide) (pcY := 143) (by decide) (pcN := 141) rfl (fun c138 => ?_) (fun c138 => ?_)
            · refine G.aload P at_143 rfl rfl (pc' := 145) rfl ?_
              refine G.iload P at_145 rfl (pc' := 147) rfl ?_
              refine G.iconst P at_147 (v := (1 : Int32)) rfl (pc' := 148) rfl ?_
              refine G.isub P at_148 (pc' := 149) rfl ?_
              refine G.top (x' := (Int32.ofNat (511 - 1))) (own_pred (by omega)) ?_
              refine G.callV P (wd hw (i := 34) rfl) (wd hw (i := 35) rfl) (wd hw (i := 37) rfl) (wd hw (i := 36) rfl) (wd hw (i := 4) rfl) (wd hw (i := 38) rfl) (by decide) O185.1 (argsL := [(.int (Int32.ofNat (511 - 1)))]) (a := b185) (rm6 hw b185 b196 (Int32.ofNat 513) (oupd (cpy (fun _ => 0) (oupd (cpy (cpy (fun _ => 0) (fun _ => 0) 0 0 256) F184 0 0 511) 511 (nar .byte x176)) 0 0 512) 512 (nar .byte x177)) 1024 (511 - 1) h194 O185 Ob196 ne_b185_b196 (by omega) (by omega) P.sz) (by decide) (by decide) (cells' := 5) rfl (slots' := 2307) rfl (by decide) (by decide) (lenOf pd_6 rfl) rfl (rest := []) rfl (W := 0) (Nat.le_of_eq rfl) at_149 (pc' := 152) rfl ?_
              rintro T _ _ P ⟨rfl, rfl⟩
              show Goes p e below s n0 room_1.cells room_1.slots (Q0 Z p0 p1 p2 p3 p4 h0) (T.setTop (mkF m 152 #[.val (.int p0), .val (.int p1), .val (.int p2), .val (.int p3), .val (.int p4), .val (.int (Int32.ofNat 511)), .val (.int x176), .val (.int x177), .val (.ref b178), .val (.ref b185)] [(.int (nar .byte ((oupd (cpy (fun _ => 0) (oupd (cpy (cpy (fun _ => 0) (fun _ => 0) 0 0 256) F184 0 0 511) 511 (nar .byte x176)) 0 0 512) 512 (nar .byte x177)) (511 - 1))))]))
              generalize hr201 : (nar .byte ((oupd (cpy (fun _ => 0) (oupd (cpy (cpy (fun _ => 0) (fun _ => 0) 0 0 256) F184 0 0 511) 511 (nar .byte x176)) 0 0 512) 512 (nar .byte x177)) (511 - 1))) = r201
              refine G.aload P at_152 rfl rfl (pc' := 154) rfl ?_
              refine G.iload P at_154 rfl (pc' := 156) rfl ?_
              refine G.iconst P at_156 (v := (1 : Int32)) rfl (pc' := 157) rfl ?_
              refine G.isub P at_157 (pc' := 158) rfl ?_
              refine G.top (x' := (Int32.ofNat (511 - 1))) (own_pred (by omega)) ?_
              refine G.baload P A178 (i := (511 - 1)) (own_toInt (by omega)) (by omega) at_158 (pc' := 159) rfl ?_
              generalize hx202 : (F184 (511 - 1)) = x202
              refine G.icmp_eq P at_159 (by decide) (pcY := 164) (by decide) (pcN := 162) rfl (fun c159 => ?_) (fun c159 => ?_)
              · refine G.iconst P at_164 (v := (1 : Int32)) rfl (pc' := 165) rfl ?_
                exact G.ireturnN P (t := .boolean) rfl (by simp) rfl at_165 (by decide) (by decide) ⟨congrArg (fun z => some (Value.int z)) (rfl), trivial⟩
              · exact absurd (hr201.symm.trans ((congrArg (nar .byte) ((own_un (by omega)).trans ((own_cin (by omega)).trans ((own_un (by omega)).trans (own_cin (by omega)))))).trans ((own_nar (hB _ (by omega))).trans hx202))) c159
            · exact absurd (hr199.symm.trans ((congrArg (nar .byte) ((own_un (by omega)).trans ((own_cin (by omega)).trans ((own_un (by omega)).trans (own_cin (by omega)))))).trans ((own_nar (hB _ (by omega))).trans hx200))) c138
          · exact absurd (hr198.symm.trans ((congrArg (nar .byte) (own_us (by omega))).trans (own_nn hx177))) c118
        · exact absurd (hr197.symm.trans ((congrArg (nar .byte) ((own_un (by omega)).trans ((own_cin (by omega)).trans (own_us (by omega))))).trans (own_nn hx176))) c102
      · exact absurd (by decide) c88
  · have hk0 := hk
    refine G.iloadN P at_10 rfl (pc' := 11) rfl ?_
    refine G.i2b P at_11 (pc' := 12) rfl ?_
    obtain ⟨x203, hx203⟩ : ∃ z : Int32, (p1.toInt8.toInt32) = z := ⟨_, rfl⟩
    refine G.istore P at_12 hx203 (L' := #[.val (.int p0), .val (.int p1), .val (.int p2), .val (.int p3), .val (.int p4), .val (.int (Int32.ofNat 512)), .val (.int x203), .unset, .unset, .unset]) rfl (pc' := 14) rfl ?_
    refine G.iloadN P at_14 rfl (pc' := 15) rfl ?_
    refine G.i2b P at_15 (pc' := 16) rfl ?_
    obtain ⟨x204, hx204⟩ : ∃ z : Int32, (p2.toInt8.toInt32) = z := ⟨_, rfl⟩
    refine G.istore P at_16 hx204 (L' := #[.val (.int p0), .val (.int p1), .val (.int p2), .val (.int p3), .val (.int p4), .val (.int (Int32.ofNat 512)), .val (.int x203), .val (.int x204), .unset, .unset]) rfl (pc' := 18) rfl ?_
    refine G.sipush P at_18 (v := (513 : Int32)) rfl (pc' := 21) rfl ?_
    refine G.newarray P (wd hw (i := 1) rfl) rfl (N := 513) (by decide) (cap := 513) (Nat.le_refl _) (by decide) at_21 (cells' := 1) rfl (slots' := 513) rfl (by decide) (by decide) (pc' := 23) rfl ?_
    intro T h205 b205 hb205 g_b205 P E205 A205
    replace A205 : Ints Z h205 b205 .byte 513 (fun _ => 0) := A205
    refine G.astore P at_23 rfl (L' := #[.val (.int p0), .val (.int p1), .val (.int p2), .val (.int p3), .val (.int p4), .val (.int (Int32.ofNat 512)), .val (.int x203), .val (.int x204), .val (.ref b205), .unset]) rfl (pc' := 25) rfl ?_
    refine G.aload P at_25 rfl rfl (pc' := 27) rfl ?_
    refine G.iconst P at_27 (v := (0 : Int32)) rfl (pc' := 28) rfl ?_
    refine G.iload P at_28 rfl (pc' := 30) rfl ?_
    refine G.i2b P at_30 (pc' := 31) rfl ?_
    refine G.bastore P A205 (i := 0) (by decide) (by decide) g_b205 at_31 (pc' := 32) rfl ?_
    intro T h207 P W206
    replace A205 := A205.same W206
    obtain ⟨F208, hF208⟩ : ∃ q : Nat → Int32, (oupd (fun _ => 0) 0 (nar .byte (p4.toInt8.toInt32))) = q := ⟨_, rfl⟩
    rw [hF208] at A205
    refine G.iload P at_32 rfl (pc' := 34) rfl ?_
    refine G.if_le P at_34 (by decide) (pcY := 46) (by decide) (pcN := 37) rfl (fun c34 => ?_) (fun c34 => ?_)
    · exact absurd ((own_lt0 (by omega)).mpr (by omega)) c34
    · refine G.aload P at_37 rfl rfl (pc' := 39) rfl ?_
      refine G.iload P at_39 rfl (pc' := 41) rfl ?_
      refine G.iconst P at_41 (v := (1 : Int32)) rfl (pc' := 42) rfl ?_
      refine G.isub P at_42 (pc' := 43) rfl ?_
      refine G.top (x' := (Int32.ofNat (512 - 1))) (own_pred (by omega)) ?_
      refine G.iloadN P at_43 rfl (pc' := 44) rfl ?_
      refine G.i2b P at_44 (pc' := 45) rfl ?_
      refine G.bastore P A205 (i := (512 - 1)) (own_toInt (by omega)) (by omega) g_b205 at_45 (pc' := 46) rfl ?_
      intro T h210 P W209
      replace A205 := A205.same W209
      obtain ⟨F211, hF211⟩ : ∃ q : Nat → Int32, (oupd F208 (512 - 1) (nar .byte (p3.toInt8.toInt32))) = q := ⟨_, rfl⟩
      rw [hF211] at A205
      have hB : Byt 513 F211 := (by rw [← hF211]; exact own_bytu (by rw [← hF208]; exact own_bytu own_z0))
      refine G.new P (wd hw (i := 2) rfl) (wd hw (i := 3) rfl) (wd hw (i := 4) rfl) at_46 (cells' := 2) rfl (slots' := 515) rfl (by decide) (by decide) (pc' := 49) rfl ?_
      intro T h212 b212 hb212 g_b212 P E212 X212 D212
      have ne_b205_b212 : b205 ≠ b212 := by rw [hb212]; exact Nat.ne_of_lt A205.lt
      replace A205 := A205.ext E212
      have O212 := ObBY.new hw X212 @D212
      refine G.dup P at_49 rfl (pc' := 50) rfl ?_
      refine G.callI P rfl (wd hw (i := 5) rfl) (wd hw (i := 6) rfl) (wd hw (i := 4) rfl) (wd hw (i := 7) rfl) (by decide) (argsL := []) (a := b212) (rm1 hw b212 h212 O212 g_b212 P.sz) (by decide) (by decide) (cells' := 3) rfl (slots' := 771) rfl (by decide) (by decide) (lenOf pd_1 rfl) rfl (rest := [(.ref b212)]) rfl (W := 1) (Nat.le_of_eq rfl) at_50 (pc' := 53) rfl ?_
      have old_b215 := P.sz
      rintro T h213 _ P ⟨b215, rfl, sz_b215, K214, Ob215, O212'⟩
      have g_b215 : n0 ≤ b215 := Nat.le_trans old_b215 sz_b215
      have ne_b205_b215 : b205 ≠ b215 := Nat.ne_of_lt (Nat.lt_of_lt_of_le A205.lt sz_b215)
      have ne_b212_b215 : b212 ≠ b215 := Nat.ne_of_lt (Nat.lt_of_lt_of_le O212.lt sz_b215)
      replace O212 := O212'
      replace A205 := A205.keep K214 (ninS ne_b205_b212 nin0)
      show Goes p e below s n0 room_1.cells room_1.slots (Q0 Z p0 p1 p2 p3 p4 h0) (T.setTop (mkF m 53 #[.val (.int p0), .val (.int p1), .val (.int p2), .val (.int p3), .val (.int p4), .val (.int (Int32.ofNat 512)), .val (.int x203), .val (.int x204), .val (.ref b205), .unset] [(.ref b212)]))
      refine G.astore P at_53 rfl (L' := #[.val (.int p0), .val (.int p1), .val (.int p2), .val (.int p3), .val (.int p4), .val (.int (Int32.ofNat 512)), .val (.int x203), .val (.int x204), .val (.ref b205), .val (.ref b212)]) rfl (pc' := 55) rfl ?_
      refine G.aload P at_55 rfl rfl (pc' := 57) rfl ?_
      refine G.aload P at_57 rfl rfl (pc' := 59) rfl ?_
      refine G.iconst P at_59 (v := (0 : Int32)) rfl (pc' := 60) rfl ?_
      refine G.iload P at_60 rfl (pc' := 62) rfl ?_
      refine G.callV P (wd hw (i := 13) rfl) (wd hw (i := 14) rfl) (wd hw (i := 16) rfl) (wd hw (i := 15) rfl) (wd hw (i := 4) rfl) (wd hw (i := 17) rfl) (by decide) O212.1 (argsL := [(.ref b205), (.int (0 : Int32)), (.int (Int32.ofNat 512))]) (a := b212) (rm3B hw b212 b205 b215 F211 512 h213 O212 Ob215 A205 ne_b212_b215 (Ne.symm ne_b205_b212) (Ne.symm ne_b205_b215) g_b212 (by omega) (by omega) hB P.sz) (by decide) (by decide) (cells' := 4) rfl (slots' := 1283) rfl (by decide) (by decide) (lenOf pd_3 rfl) rfl (rest := []) rfl (W := 0) (Nat.le_of_eq rfl) at_62 (pc' := 65) rfl ?_
      have old_b218 := P.sz
      rintro T h216 _ P ⟨b218, rfl, sz_b218, K217, Ob218, O212', Ob215', A205'⟩
      have g_b218 : n0 ≤ b218 := Nat.le_trans old_b218 sz_b218
      have ne_b205_b218 : b205 ≠ b218 := Nat.ne_of_lt (Nat.lt_of_lt_of_le A205.lt sz_b218)
      have ne_b212_b218 : b212 ≠ b218 := Nat.ne_of_lt (Nat.lt_of_lt_of_le O212.lt sz_b218)
      have ne_b215_b218 : b215 ≠ b218 := Nat.ne_of_lt (Nat.lt_of_lt_of_le Ob215.lt sz_b218)
      replace O212 := O212'
      replace Ob215 := Ob215'
      replace A205 := A205'
      show Goes p e below s n0 room_1.cells room_1.slots (Q0 Z p0 p1 p2 p3 p4 h0) (T.setTop (mkF m 65 #[.val (.int p0), .val (.int p1), .val (.int p2), .val (.int p3), .val (.int p4), .val (.int (Int32.ofNat 512)), .val (.int x203), .val (.int x204), .val (.ref b205), .val (.ref b212)] []))
      refine G.aload P at_65 rfl rfl (pc' := 67) rfl ?_
      refine G.iload P at_67 rfl (pc' := 69) rfl ?_
      refine G.callV P (wd hw (i := 24) rfl) (wd hw (i := 25) rfl) (wd hw (i := 27) rfl) (wd hw (i := 26) rfl) (wd hw (i := 4) rfl) (wd hw (i := 28) rfl) (by decide) O212.1 (argsL := [(.int x203)]) (a := b212) (rm4Gb hw b212 x203 b218 (cpy (cpy (fun _ => 0) (fun _ => 0) 0 0 256) F211 0 0 512) h216 O212 Ob218 ne_b212_b218 g_b212 (own_bytc (own_bytc own_z0 (own_z0 (n := 256)) (by omega)) hB (by omega)) P.sz) (by decide) (by decide) (cells' := 5) rfl (slots' := 2307) rfl (by decide) (by decide) (lenOf pd_4 rfl) rfl (rest := []) rfl (W := 0) (Nat.le_of_eq rfl) at_69 (pc' := 72) rfl ?_
      have old_b221 := P.sz
      rintro T h219 _ P ⟨b221, rfl, sz_b221, K220, Ob221, O212', Ob218'⟩
      have g_b221 : n0 ≤ b221 := Nat.le_trans old_b221 sz_b221
      have ne_b205_b221 : b205 ≠ b221 := Nat.ne_of_lt (Nat.lt_of_lt_of_le A205.lt sz_b221)
      have ne_b212_b221 : b212 ≠ b221 := Nat.ne_of_lt (Nat.lt_of_lt_of_le O212.lt sz_b221)
      have ne_b215_b221 : b215 ≠ b221 := Nat.ne_of_lt (Nat.lt_of_lt_of_le Ob215.lt sz_b221)
      have ne_b218_b221 : b218 ≠ b221 := Nat.ne_of_lt (Nat.lt_of_lt_of_le Ob218.lt sz_b221)
      replace O212 := O212'
      replace Ob218 := Ob218'
      replace A205 := A205.keep K220 (ninS ne_b205_b212 nin0)
      replace Ob215 := Ob215.keep K220 (ninS (Ne.symm ne_b212_b215) nin0)
      show Goes p e below s n0 room_1.cells room_1.slots (Q0 Z p0 p1 p2 p3 p4 h0) (T.setTop (mkF m 72 #[.val (.int p0), .val (.int p1), .val (.int p2), .val (.int p3), .val (.int p4), .val (.int (Int32.ofNat 512)), .val (.int x203), .val (.int x204), .val (.ref b205), .val (.ref b212)] []))
      refine G.aload P at_72 rfl rfl (pc' := 74) rfl ?_
      refine G.iload P at_74 rfl (pc' := 76) rfl ?_
      refine G.callV P (wd hw (i := 24) rfl) (wd hw (i := 25) rfl) (wd hw (i := 27) rfl) (wd hw (i := 26) rfl) (wd hw (i := 4) rfl) (wd hw (i := 28) rfl) (by decide) O212.1 (argsL := [(.int x204)]) (a := b212) (rm4N hw b212 x204 b221 (oupd (cpy (fun _ => 0) (cpy (cpy (fun _ => 0) (fun _ => 0) 0 0 256) F211 0 0 512) 0 0 512) 512 (nar .byte x203)) 513 1024 h219 O212 Ob221 ne_b212_b221 g_b212 g_b221 (by omega) (by omega) P.sz) (by decide) (by decide) (cells' := 5) rfl (slots' := 2307) rfl (by decide) (by decide) (lenOf pd_4 rfl) rfl (rest := []) rfl (W := 0) (Nat.le_of_eq rfl) at_76 (pc' := 79) rfl ?_
      clear O212
      clear Ob221
      rintro T h222 _ P ⟨rfl, K223, O212, Ob221⟩
      replace A205 := A205.keep K223 (ninS ne_b205_b212 (ninS ne_b205_b221 nin0))
      replace Ob215 := Ob215.keep K223 (ninS (Ne.symm ne_b212_b215) (ninS ne_b215_b221 nin0))
      replace Ob218 := Ob218.keep K223 (ninS (Ne.symm ne_b212_b218) (ninS ne_b218_b221 nin0))
      show Goes p e below s n0 room_1.cells room_1.slots (Q0 Z p0 p1 p2 p3 p4 h0) (T.setTop (mkF m 79 #[.val (.int p0), .val (.int p1), .val (.int p2), .val (.int p3), .val (.int p4), .val (.int (Int32.ofNat 512)), .val (.int x203), .val (.int x204), .val (.ref b205), .val (.ref b212)] []))
      refine G.aload P at_79 rfl rfl (pc' := 81) rfl ?_
      refine G.callV P (wd hw (i := 29) rfl) (wd hw (i := 30) rfl) (wd hw (i := 32) rfl) (wd hw (i := 31) rfl) (wd hw (i := 4) rfl) (wd hw (i := 33) rfl) (by decide) O212.1 (argsL := []) (a := b212) (rm5 hw b212 b221 (Int32.ofNat (513 + 1)) h222 O212 P.sz) (by decide) (by decide) (cells' := 5) rfl (slots' := 2307) rfl (by decide) (by decide) (lenOf pd_5 rfl) rfl (rest := []) rfl (W := 0) (Nat.le_of_eq rfl) at_81 (pc' := 84) rfl ?_
      rintro T _ _ P ⟨rfl, rfl⟩
      show Goes p e below s n0 room_1.cells room_1.slots (Q0 Z p0 p1 p2 p3 p4 h0) (T.setTop (mkF m 84 #[.val (.int p0), .val (.int p1), .val (.int p2), .val (.int p3), .val (.int p4), .val (.int (Int32.ofNat 512)), .val (.int x203), .val (.int x204), .val (.ref b205), .val (.ref b212)] [(.int (Int32.ofNat (513 + 1)))]))
      refine G.iload P at_84 rfl (pc' := 86) rfl ?_
      refine G.iconst P at_86 (v := (2 : Int32)) rfl (pc' := 87) rfl ?_
      refine G.iadd P at_87 (pc' := 88) rfl ?_
      refine G.icmp_eq P at_88 (by decide) (pcY := 93) (by decide) (pcN := 91) rfl (fun c88 => ?_) (fun c88 => ?_)
      · refine G.aload P at_93 rfl rfl (pc' := 95) rfl ?_
        refine G.iload P at_95 rfl (pc' := 97) rfl ?_
        refine G.callV P (wd hw (i := 34) rfl) (wd hw (i := 35) rfl) (wd hw (i := 37) rfl) (wd hw (i := 36) rfl) (wd hw (i := 4) rfl) (wd hw (i := 38) rfl) (by decide) O212.1 (argsL := [(.int (Int32.ofNat 512))]) (a := b212) (rm6 hw b212 b221 (Int32.ofNat (513 + 1)) (oupd (oupd (cpy (fun _ => 0) (cpy (cpy (fun _ => 0) (fun _ => 0) 0 0 256) F211 0 0 512) 0 0 512) 512 (nar .byte x203)) 513 (nar .byte x204)) 1024 512 h222 O212 Ob221 ne_b212_b221 (by omega) (by omega) P.sz) (by decide) (by decide) (cells' := 5) rfl (slots' := 2307) rfl (by decide) (by decide) (lenOf pd_6 rfl) rfl (rest := []) rfl (W := 0) (Nat.le_of_eq rfl) at_97 (pc' := 100) rfl ?_
        rintro T _ _ P ⟨rfl, rfl⟩
        show Goes p e below s n0 room_1.cells room_1.slots (Q0 Z p0 p1 p2 p3 p4 h0) (T.setTop (mkF m 100 #[.val (.int p0), .val (.int p1), .val (.int p2), .val (.int p3), .val (.int p4), .val (.int (Int32.ofNat 512)), .val (.int x203), .val (.int x204), .val (.ref b205), .val (.ref b212)] [(.int (nar .byte ((oupd (oupd (cpy (fun _ => 0) (cpy (cpy (fun _ => 0) (fun _ => 0) 0 0 256) F211 0 0 512) 0 0 512) 512 (nar .byte x203)) 513 (nar .byte x204)) 512)))]))
        generalize hr224 : (nar .byte ((oupd (oupd (cpy (fun _ => 0) (cpy (cpy (fun _ => 0) (fun _ => 0) 0 0 256) F211 0 0 512) 0 0 512) 512 (nar .byte x203)) 513 (nar .byte x204)) 512)) = r224
        refine G.iload P at_100 rfl (pc' := 102) rfl ?_
        refine G.icmp_eq P at_102 (by decide) (pcY := 107) (by decide) (pcN := 105) rfl (fun c102 => ?_) (fun c102 => ?_)
        · refine G.aload P at_107 rfl rfl (pc' := 109) rfl ?_
          refine G.iload P at_109 rfl (pc' := 111) rfl ?_
          refine G.iconst P at_111 (v := (1 : Int32)) rfl (pc' := 112) rfl ?_
          refine G.iadd P at_112 (pc' := 113) rfl ?_
          refine G.top (x' := (Int32.ofNat (512 + 1))) (own_succ _) ?_
          refine G.callV P (wd hw (i := 34) rfl) (wd hw (i := 35) rfl) (wd hw (i := 37) rfl) (wd hw (i := 36) rfl) (wd hw (i := 4) rfl) (wd hw (i := 38) rfl) (by decide) O212.1 (argsL := [(.int (Int32.ofNat (512 + 1)))]) (a := b212) (rm6 hw b212 b221 (Int32.ofNat (513 + 1)) (oupd (oupd (cpy (fun _ => 0) (cpy (cpy (fun _ => 0) (fun _ => 0) 0 0 256) F211 0 0 512) 0 0 512) 512 (nar .byte x203)) 513 (nar .byte x204)) 1024 (512 + 1) h222 O212 Ob221 ne_b212_b221 (by omega) (by omega) P.sz) (by decide) (by decide) (cells' := 5) rfl (slots' := 2307) rfl (by decide) (by decide) (lenOf pd_6 rfl) rfl (rest := []) rfl (W := 0) (Nat.le_of_eq rfl) at_113 (pc' := 116) rfl ?_
          rintro T _ _ P ⟨rfl, rfl⟩
          show Goes p e below s n0 room_1.cells room_1.slots (Q0 Z p0 p1 p2 p3 p4 h0) (T.setTop (mkF m 116 #[.val (.int p0), .val (.int p1), .val (.int p2), .val (.int p3), .val (.int p4), .val (.int (Int32.ofNat 512)), .val (.int x203), .val (.int x204), .val (.ref b205), .val (.ref b212)] [(.int (nar .byte ((oupd (oupd (cpy (fun _ => 0) (cpy (cpy (fun _ => 0) (fun _ => 0) 0 0 256) F211 0 0 512) 0 0 512) 512 (nar .byte x203)) 513 (nar .byte x204)) (512 + 1))))]))
          generalize hr225 : (nar .byte ((oupd (oupd (cpy (fun _ => 0) (cpy (cpy (fun _ => 0) (fun _ => 0) 0 0 256) F211 0 0 512) 0 0 512) 512 (nar .byte x203)) 513 (nar .byte x204)) (512 + 1))) = r225
          refine G.iload P at_116 rfl (pc' := 118) rfl ?_
          refine G.icmp_eq P at_118 (by decide) (pcY := 123) (by decide) (pcN := 121) rfl (fun c118 => ?_) (fun c118 => ?_)
          · refine G.iload P at_123 rfl (pc' := 125) rfl ?_
            refine G.if_le P at_125 (by decide) (pcY := 164) (by decide) (pcN := 128) rfl (fun c => absurd c34 c) (fun _ => ?_)
            refine G.aload P at_128 rfl rfl (pc' := 130) rfl ?_
            refine G.iconst P at_130 (v := (0 : Int32)) rfl (pc' := 131) rfl ?_
            refine G.callV P (wd hw (i := 34) rfl) (wd hw (i := 35) rfl) (wd hw (i := 37) rfl) (wd hw (i := 36) rfl) (wd hw (i := 4) rfl) (wd hw (i := 38) rfl) (by decide) O212.1 (argsL := [(.int (0 : Int32))]) (a := b212) (rm6 hw b212 b221 (Int32.ofNat (513 + 1)) (oupd (oupd (cpy (fun _ => 0) (cpy (cpy (fun _ => 0) (fun _ => 0) 0 0 256) F211 0 0 512) 0 0 512) 512 (nar .byte x203)) 513 (nar .byte x204)) 1024 0 h222 O212 Ob221 ne_b212_b221 (by omega) (by omega) P.sz) (by decide) (by decide) (cells' := 5) rfl (slots' := 2307) rfl (by decide) (by decide) (lenOf pd_6 rfl) rfl (rest := []) rfl (W := 0) (Nat.le_of_eq rfl) at_131 (pc' := 134) rfl ?_
            rintro T _ _ P ⟨rfl, rfl⟩
            show Goes p e below s n0 room_1.cells room_1.slots (Q0 Z p0 p1 p2 p3 p4 h0) (T.setTop (mkF m 134 #[.val (.int p0), .val (.int p1), .val (.int p2), .val (.int p3), .val (.int p4), .val (.int (Int32.ofNat 512)), .val (.int x203), .val (.int x204), .val (.ref b205), .val (.ref b212)] [(.int (nar .byte ((oupd (oupd (cpy (fun _ => 0) (cpy (cpy (fun _ => 0) (fun _ => 0) 0 0 256) F211 0 0 512) 0 0 512) 512 (nar .byte x203)) 513 (nar .byte x204)) 0)))]))
            generalize hr226 : (nar .byte ((oupd (oupd (cpy (fun _ => 0) (cpy (cpy (fun _ => 0) (fun _ => 0) 0 0 256) F211 0 0 512) 0 0 512) 512 (nar .byte x203)) 513 (nar .byte x204)) 0)) = r226
            refine G.aload P at_134 rfl rfl (pc' := 136) rfl ?_
            refine G.iconst P at_136 (v := (0 : Int32)) rfl (pc' := 137) rfl ?_
            refine G.baload P A205 (i := 0) (by decide) (by decide) at_137 (pc' := 138) rfl ?_
            generalize hx227 : (F211 0) = x227
            refine G.icmp_eq P at_138 (by decide) (pcY := 143) (by decide) (pcN := 141) rfl (fun c138 => ?_) (fun c138 => ?_)
            · refine G.aload P at_143 rfl rfl (pc' := 145) rfl ?_
              refine G.iload P at_145 rfl (pc' := 147) rfl ?_
              refine G.iconst P at_147 (v := (1 : Int32)) rfl (pc' := 148) rfl ?_
              refine G.isub P at_148 (pc' := 149) rfl ?_
              refine G.top (x' := (Int32.ofNat (512 - 1))) (own_pred (by omega)) ?_
              refine G.callV P (wd hw (i := 34) rfl) (wd hw (i := 35) rfl) (wd hw (i := 37) rfl) (wd hw (i := 36) rfl) (wd hw (i := 4) rfl) (wd hw (i := 38) rfl) (by decide) O212.1 (argsL := [(.int (Int32.ofNat (512 - 1)))]) (a := b212) (rm6 hw b212 b221 (Int32.ofNat (513 + 1)) (oupd (oupd (cpy (fun _ => 0) (cpy (cpy (fun _ => 0) (fun _ => 0) 0 0 256) F211 0 0 512) 0 0 512) 512 (nar .byte x203)) 513 (nar .byte x204)) 1024 (512 - 1) h222 O212 Ob221 ne_b212_b221 (by omega) (by omega) P.sz) (by decide) (by decide) (cells' := 5) rfl (slots' := 2307) rfl (by decide) (by decide) (lenOf pd_6 rfl) rfl (rest := []) rfl (W := 0) (Nat.le_of_eq rfl) at_149 (pc' := 152) rfl ?_
              rintro T _ _ P ⟨rfl, rfl⟩
              show Goes p e below s n0 room_1.cells room_1.slots (Q0 Z p0 p1 p2 p3 p4 h0) (T.setTop (mkF m 152 #[.val (.int p0), .val (.int p1), .val (.int p2), .val (.int p3), .val (.int p4), .val (.int (Int32.ofNat 512)), .val (.int x203), .val (.int x204), .val (.ref b205), .val (.ref b212)] [(.int (nar .byte ((oupd (oupd (cpy (fun _ => 0) (cpy (cpy (fun _ => 0) (fun _ => 0) 0 0 256) F211 0 0 512) 0 0 512) 512 (nar .byte x203)) 513 (nar .byte x204)) (512 - 1))))]))
              generalize hr228 : (nar .byte ((oupd (oupd (cpy (fun _ => 0) (cpy (cpy (fun _ => 0) (fun _ => 0) 0 0 256) F211 0 0 512) 0 0 512) 512 (nar .byte x203)) 513 (nar .byte x204)) (512 - 1))) = r228
              refine G.aload P at_152 rfl rfl (pc' := 154) rfl ?_
              refine G.iload P at_154 rfl (pc' := 156) rfl ?_
              refine G.iconst P at_156 (v := (1 : Int32)) rfl (pc' := 157) rfl ?_
              refine G.isub P at_157 (pc' := 158) rfl ?_
              refine G.top (x' := (Int32.ofNat (512 - 1))) (own_pred (by omega)) ?_
              refine G.baload P A205 (i := (512 - 1)) (own_toInt (by omega)) (by omega) at_158 (pc' := 159) rfl ?_
              generalize hx229 : (F211 (512 - 1)) = x229
              refine G.icmp_eq P at_159 (by decide) (pcY := 164) (by decide) (pcN := 162) rfl (fun c159 => ?_) (fun c159 => ?_)
              · refine G.iconst P at_164 (v := (1 : Int32)) rfl (pc' := 165) rfl ?_
                exact G.ireturnN P (t := .boolean) rfl (by simp) rfl at_165 (by decide) (by decide) ⟨congrArg (fun z => some (Value.int z)) (rfl), trivial⟩
              · exact absurd (hr228.symm.trans ((congrArg (nar .byte) ((own_un (by omega)).trans ((own_un (by omega)).trans ((own_cin (by omega)).trans (own_cin (by omega)))))).trans ((own_nar (hB _ (by omega))).trans hx229))) c159
            · exact absurd (hr226.symm.trans ((congrArg (nar .byte) ((own_un (by omega)).trans ((own_un (by omega)).trans ((own_cin (by omega)).trans (own_cin (by omega)))))).trans ((own_nar (hB _ (by omega))).trans hx227))) c138
          · exact absurd (hr225.symm.trans ((congrArg (nar .byte) (own_us (by omega))).trans (own_nn hx204))) c118
        · exact absurd (hr224.symm.trans ((congrArg (nar .byte) ((own_un (by omega)).trans (own_us (by omega)))).trans (own_nn hx203))) c102
      · exact absurd (by decide) c88
set_option maxRecDepth 65536 in
set_option maxHeartbeats 40000000 in
theorem comes_1 {Post : Tables → Env → Array Value → State → Outcome → State → Prop} (hpost : ∀ tb e args s v u, (limb_1_1.after args s (.returned v) u = true ∧ limb_1_2.after args s (.returned v) u = true) → FrameEnd s (.returned v) u (Jvm.fieldLocs frame_1_writes args s ++ Jvm.arrayLocs frame_1_arrays args s ++ Jvm.staticLocs frame_1_statics s) 16 2688 → Post tb e args s (.returned v) u) :
    ArmFor flags0 classFile x code maxLocals ret World_1 tables_1 room_1 Calls_1 rest_1 Pre_1 Post := by
  intro l hfl _ _ p e ha hc hk s m args below hf hA hF happ hP
  obtain ⟨hcalls, hrest, hpre⟩ := hP
  obtain ⟨-, -, -, hnamed, -, -, -, hat⟩ := (Spec.applies_iff hf).mp happ
  obtain ⟨hg, hn⟩ := and_e (Cond.before_iff.mp (show (Jvm.Cond.and given_1 narrow_1).before args s = true from hpre))
  obtain ⟨hcount, g0⟩ := and_e hg
  obtain ⟨v0, g1⟩ := and_e g0
  obtain ⟨v1, g2⟩ := and_e g1
  obtain ⟨v2, g3⟩ := and_e g2
  obtain ⟨v3, g4⟩ := and_e g3
  have v4 := g4
  obtain ⟨w0, w1, w2, w3, w4, rfl⟩ : ∃ w0 w1 w2 w3 w4 : Value, args = #[w0, w1, w2, w3, w4] := by
    have hs : args.size = 5 := by simpa [Cond.value, given_1] using hcount
    obtain ⟨L⟩ := args
    match L, hs with
    | [w0, w1, w2, w3, w4], _ => exact ⟨w0, w1, w2, w3, w4, rfl⟩
  have hw := fun d (hd : d ∈ tables_1) => atoms_spec (ws := Jvm.Cond.code x code maxLocals ret :: tables_1) hat d (List.mem_cons_of_mem _ hd)
  obtain ⟨i0, ei0⟩ := is_v v0
  obtain rfl : w0 = (.int i0) := Option.some.inj ei0
  obtain ⟨i1, ei1⟩ := is_v v1
  obtain rfl : w1 = (.int i1) := Option.some.inj ei1
  obtain ⟨i2, ei2⟩ := is_v v2
  obtain rfl : w2 = (.int i2) := Option.some.inj ei2
  obtain ⟨i3, ei3⟩ := is_v v3
  obtain rfl : w3 = (.int i3) := Option.some.inj ei3
  obtain ⟨i4, ei4⟩ := is_v v4
  obtain rfl : w4 = (.int i4) := Option.some.inj ei4
  obtain ⟨n, o, h1, h2, h3, v, L, rfl, ⟨hQ, N⟩, hq⟩ := rm0 hw i0 i1 i2 i3 i4 s.heap (Nat.le_refl s.heap.size) tables_1 p e ha hc hk s m _ below hf ((Spec.applies_iff_loose hf).mp happ).1 ⟨rfl, State.Warmed39.refl s, rfl⟩ trivial
  obtain rfl : v = some (.int 1) := hQ.1
  refine ⟨n, _, h1, h2, h3, hpost _ _ _ _ _ _ ⟨Cond.after_iff.mpr rfl, Cond.after_iff.mpr (eq_i res_at (Term.int_eval (1)) rfl)⟩ ⟨hq.1, hq.2.1, (hq.2.2.sift fun y hy => Or.inr (N y hy)).mono (by decide) (by decide)⟩⟩
theorem main_1_1 : Claimed_1_1 := comes_1 fun _ _ _ _ _ _ h hF => ⟨h.1, hF⟩
theorem main_1_2 : Claimed_1_2 := comes_1 fun _ _ _ _ _ _ h hF => ⟨h.2, hF⟩
end Jvm.Pilot.@@N@@
namespace Jvm.Pilot.@@N@@
open Jvm Jvm.ClassFile Sem Op Lib Jvm.Free Jvm.Stand Jvm.Pilot.@@N@@.Jvm.D
/-! MADE BY PROGRAM (witnessworld.py) out of the Statement's table words and the real class files: 12 classes; the members and pool entries that the words name. The judged class is class 1, her method 1. -/
namespace start1
open Jvm.ClassFile
def u (s : String) : CpInfo := .utf8 (stringToUtf16 s)
/-- a pool by its gaps: so many unusable entries, then the entry; so many at the end -/
def gap : Nat → List CpInfo → List CpInfo
  | 0, r => r
  | n + 1, r => .unusable :: gap n r
def poolList (es : List (Nat × CpInfo)) (last : Nat) : List CpInfo := es.foldr (fun e r => gap e.1 (e.2 :: r)) (gap last [])
def pool (es : List (Nat × CpInfo)) (last : Nat) : Array CpInfo := ⟨poolList es last⟩
def fileOf (pool : Array CpInfo) (this : Nat) (attrs : Array Attribute := #[]) (ms : Array MethodInfo := #[]) (fl : Nat := 33) (sup : Nat := 0) (ifs : Array Nat := #[]) (fds : Array FieldInfo := #[]) : ClassFile where
  minorVersion := 0
  majorVersion := 65
  constantPool := pool
  accessFlags := fl
  thisClass := this
  superClass := sup
  interfaces := ifs
  fields := fds
  methods := ms
  attributes := attrs
def plain (name : String) (sup : Option ClassId) : Class where
  name := name
  kind := .ordinary
  loader := none
  accessFlags := 33
  super := sup
  interfaces := #[]
  cf := none
  fields := #[]
  methods := #[]
  instanceTypes := #[]
  staticTypes := #[]
  resolved := #[]
  callSites := []
  init := .initialized
  statics := none
  mirror := none

def pool0 : Array CpInfo := pool [(5, u "<init>"), (0, u "()V"), (1, .class_ 10), (1, u "java/lang/Object")] 113

def k0c0 : Code := { maxStack := 0, maxLocals := 1, code := object_method_1_code, exceptionTable := #[], attributes := #[] }
def k0m0 : Method := { name := "<init>", desc := "()V", sig := { parameters := [], returnType := none }, accessFlags := 1, code := some k0c0 }
/-- java/lang/Object -/
def k0 : Class := { plain "java/lang/Object" none with
  accessFlags := 33
  interfaces := #[]
  cf := some (fileOf pool0 8 #[] #[{ accessFlags := 1, nameIndex := 5, descriptorIndex := 6, attributes := #[] }] 33 0 #[] #[])
  fields := #[]
  methods := #[k0m0]
  instanceTypes := #[]
  staticTypes := #[]
  resolved := Array.replicate 124 none
  statics := none }

def pool1 : Array CpInfo := pool [(2, .class_ 4), (0, .nameAndType 5 6), (0, u "java/lang/Object"), (0, u "<init>"), (0, u "()V"), (0, .integer 2147483647), (0, .class_ 9), (0, u "com/example/labrelay/labrelay/Bytes"), (0, .methodref 8 3), (0, .methodref 8 12), (0, .nameAndType 13 14), (0, u "write"), (0, u "([BII)V"), (0, .methodref 8 16), (0, .nameAndType 13 17), (0, u "(B)V"), (0, .methodref 8 19), (0, .nameAndType 20 21), (0, u "size"), (0, u "()I"), (0, .methodref 8 23), (0, .nameAndType 24 25), (0, u "at"), (0, u "(I)B"), (0, .class_ 27), (0, u "com/example/labrelay/labrelay/BytesWritePinLaw"), (2, u "law"), (0, u "(IIIII)Z")] 5

def k1m0 : Method := { name := "<init>", desc := "()V", sig := { parameters := [], returnType := none }, accessFlags := 1, code := none }
def k1c1 : Code := { maxStack := 4, maxLocals := 10, code := code, exceptionTable := #[], attributes := #[] }
def k1m1 : Method := { name := "law", desc := "(IIIII)Z", sig := { parameters := [.int, .int, .int, .int, .int], returnType := some .boolean }, accessFlags := 9, code := some k1c1 }
/-- com/example/labrelay/labrelay/BytesWritePinLaw -/
def k1 : Class := { plain "com/example/labrelay/labrelay/BytesWritePinLaw" (some 0) with
  accessFlags := 49
  interfaces := #[]
  cf := some (fileOf pool1 26 #[] #[{ accessFlags := 1, nameIndex := 5, descriptorIndex := 6, attributes := #[] }, { accessFlags := 9, nameIndex := 30, descriptorIndex := 31, attributes := #[] }] 49 2 #[] #[])
  fields := #[]
  methods := #[k1m0, k1m1]
  instanceTypes := #[]
  staticTypes := #[]
  resolved := Array.replicate 37 none
  statics := none }

def pool2 : Array CpInfo := pool [(1, .methodref 2 3), (0, .class_ 4), (0, .nameAndType 5 6), (0, u "java/lang/Object"), (0, u "<init>"), (0, u "()V"), (0, .fieldref 8 9), (0, .class_ 10), (0, .nameAndType 11 12), (0, u "com/example/labrelay/labrelay/Bytes"), (0, u "buffer"), (0, u "[B"), (0, .fieldref 8 14), (0, .nameAndType 15 16), (0, u "size"), (0, u "I"), (0, .methodref 18 19), (0, .class_ 20), (0, .nameAndType 21 22), (0, u "java/util/Arrays"), (0, u "copyOf"), (0, u "([BI)[B"), (0, .methodref 24 25), (0, .class_ 26), (0, .nameAndType 27 28), (0, u "java/lang/Math"), (0, u "max"), (0, u "(II)I"), (0, .methodref 30 31), (0, .class_ 32), (0, .nameAndType 33 34), (0, u "java/lang/System"), (0, u "arraycopy"), (0, u "(Ljava/lang/Object;ILjava/lang/Object;II)V"), (10, u "write"), (0, u "(B)V"), (1, u "([BII)V"), (0, u "()I"), (0, u "at"), (0, u "(I)B")] 10

def k2c0 : Code := { maxStack := 2, maxLocals := 1, code := prog_1_method_1_code, exceptionTable := #[], attributes := #[] }
def k2m0 : Method := { name := "<init>", desc := "()V", sig := { parameters := [], returnType := none }, accessFlags := 0, code := some k2c0 }
def k2c1 : Code := { maxStack := 5, maxLocals := 2, code := prog_1_method_2_code, exceptionTable := #[], attributes := #[] }
def k2m1 : Method := { name := "write", desc := "(B)V", sig := { parameters := [.byte], returnType := none }, accessFlags := 0, code := some k2c1 }
def k2c2 : Code := { maxStack := 5, maxLocals := 4, code := prog_1_method_3_code, exceptionTable := #[], attributes := #[] }
def k2m2 : Method := { name := "write", desc := "([BII)V", sig := { parameters := [(.array .byte), .int, .int], returnType := none }, accessFlags := 0, code := some k2c2 }
def k2c3 : Code := { maxStack := 1, maxLocals := 1, code := prog_1_method_4_code, exceptionTable := #[], attributes := #[] }
def k2m3 : Method := { name := "size", desc := "()I", sig := { parameters := [], returnType := some .int }, accessFlags := 0, code := some k2c3 }
def k2c4 : Code := { maxStack := 2, maxLocals := 2, code := prog_1_method_5_code, exceptionTable := #[], attributes := #[] }
def k2m4 : Method := { name := "at", desc := "(I)B", sig := { parameters := [.int], returnType := some .byte }, accessFlags := 0, code := some k2c4 }
/-- com/example/labrelay/labrelay/Bytes -/
def k2 : Class := { plain "com/example/labrelay/labrelay/Bytes" (some 0) with
  accessFlags := 48
  interfaces := #[]
  cf := some (fileOf pool2 8 #[] #[{ accessFlags := 0, nameIndex := 5, descriptorIndex := 6, attributes := #[] }, { accessFlags := 0, nameIndex := 45, descriptorIndex := 46, attributes := #[] }, { accessFlags := 0, nameIndex := 45, descriptorIndex := 48, attributes := #[] }, { accessFlags := 0, nameIndex := 15, descriptorIndex := 49, attributes := #[] }, { accessFlags := 0, nameIndex := 50, descriptorIndex := 51, attributes := #[] }] 48 2 #[] #[{ accessFlags := 2, nameIndex := 11, descriptorIndex := 12, attributes := #[] }, { accessFlags := 2, nameIndex := 15, descriptorIndex := 16, attributes := #[] }])
  fields := #[{ name := "buffer", type := (.array .byte), accessFlags := 2, slot := 0, constantValue := 0 }, { name := "size", type := .int, accessFlags := 2, slot := 1, constantValue := 0 }]
  methods := #[k2m0, k2m1, k2m2, k2m3, k2m4]
  instanceTypes := #[(.array .byte), .int]
  staticTypes := #[]
  resolved := Array.replicate 62 none
  statics := none }

def pool3 : Array CpInfo := pool [(2, .class_ 4), (1, u "java/lang/Object"), (0, u "<init>"), (0, u "()V"), (1, .class_ 10), (1, u "java/lang/System"), (0, u "allowSecurityManager"), (0, u "I"), (16, u "cons"), (0, u "Ljava/io/Console;"), (77, .class_ 110), (1, u "java/lang/System$CallersHolder"), (43, u "initialErrStream"), (0, u "Ljava/io/PrintStream;"), (19, u "security"), (0, u "Ljava/lang/SecurityManager;"), (31, .class_ 209), (0, u "java/lang/System$1"), (7, u "props"), (0, u "Ljava/util/Properties;"), (2, u "lineSeparator"), (0, u "Ljava/lang/String;"), (96, .class_ 321), (1, u "java/lang/System$LoggerFinder"), (5, .class_ 328), (0, u "java/lang/System$Logger"), (67, u "err"), (2, u "out"), (91, u "notSupportedJnuEncoding"), (15, u "in"), (17, u "initialIn"), (0, u "Ljava/io/InputStream;"), (35, u "bootLayer"), (0, u "Ljava/lang/ModuleLayer;"), (99, .class_ 664), (0, u "java/lang/System$2"), (9, u "NEVER"), (2, u "MAYBE"), (49, u "arraycopy"), (0, u "(Ljava/lang/Object;ILjava/lang/Object;II)V"), (72, .class_ 802), (0, u "java/lang/System$Logger$Level")] 31

def k3m0 : Method := { name := "<init>", desc := "()V", sig := { parameters := [], returnType := none }, accessFlags := 2, code := none }
def k3m1 : Method := { name := "arraycopy", desc := "(Ljava/lang/Object;ILjava/lang/Object;II)V", sig := { parameters := [(.object "java/lang/Object"), .int, (.object "java/lang/Object"), .int, .int], returnType := none }, accessFlags := 265, code := none }
/-- java/lang/System -/
def k3 : Class := { plain "java/lang/System" (some 0) with
  accessFlags := 49
  interfaces := #[]
  cf := some (fileOf pool3 8 #[.nestMembers #[319, 327, 801, 108, 663, 208]] #[{ accessFlags := 2, nameIndex := 5, descriptorIndex := 6, attributes := #[] }, { accessFlags := 265, nameIndex := 727, descriptorIndex := 728, attributes := #[] }] 49 2 #[] #[{ accessFlags := 25, nameIndex := 507, descriptorIndex := 526, attributes := #[] }, { accessFlags := 25, nameIndex := 399, descriptorIndex := 155, attributes := #[] }, { accessFlags := 25, nameIndex := 396, descriptorIndex := 155, attributes := #[] }, { accessFlags := 10, nameIndex := 525, descriptorIndex := 526, attributes := #[] }, { accessFlags := 26, nameIndex := 674, descriptorIndex := 12, attributes := #[] }, { accessFlags := 26, nameIndex := 677, descriptorIndex := 12, attributes := #[] }, { accessFlags := 10, nameIndex := 11, descriptorIndex := 12, attributes := #[] }, { accessFlags := 74, nameIndex := 175, descriptorIndex := 176, attributes := #[] }, { accessFlags := 10, nameIndex := 491, descriptorIndex := 222, attributes := #[] }, { accessFlags := 74, nameIndex := 29, descriptorIndex := 30, attributes := #[] }, { accessFlags := 74, nameIndex := 154, descriptorIndex := 155, attributes := #[] }, { accessFlags := 10, nameIndex := 217, descriptorIndex := 218, attributes := #[] }, { accessFlags := 10, nameIndex := 221, descriptorIndex := 222, attributes := #[] }, { accessFlags := 8, nameIndex := 562, descriptorIndex := 563, attributes := #[] }])
  fields := #[{ name := "in", type := (.object "java/io/InputStream"), accessFlags := 25, slot := 0, constantValue := 0 }, { name := "out", type := (.object "java/io/PrintStream"), accessFlags := 25, slot := 1, constantValue := 0 }, { name := "err", type := (.object "java/io/PrintStream"), accessFlags := 25, slot := 2, constantValue := 0 }, { name := "initialIn", type := (.object "java/io/InputStream"), accessFlags := 10, slot := 3, constantValue := 0 }, { name := "NEVER", type := .int, accessFlags := 26, slot := 4, constantValue := 0 }, { name := "MAYBE", type := .int, accessFlags := 26, slot := 5, constantValue := 0 }, { name := "allowSecurityManager", type := .int, accessFlags := 10, slot := 6, constantValue := 0 }, { name := "security", type := (.object "java/lang/SecurityManager"), accessFlags := 74, slot := 7, constantValue := 0 }, { name := "notSupportedJnuEncoding", type := (.object "java/lang/String"), accessFlags := 10, slot := 8, constantValue := 0 }, { name := "cons", type := (.object "java/io/Console"), accessFlags := 74, slot := 9, constantValue := 0 }, { name := "initialErrStream", type := (.object "java/io/PrintStream"), accessFlags := 74, slot := 10, constantValue := 0 }, { name := "props", type := (.object "java/util/Properties"), accessFlags := 10, slot := 11, constantValue := 0 }, { name := "lineSeparator", type := (.object "java/lang/String"), accessFlags := 10, slot := 12, constantValue := 0 }, { name := "bootLayer", type := (.object "java/lang/ModuleLayer"), accessFlags := 8, slot := 13, constantValue := 0 }]
  methods := #[k3m0, k3m1]
  instanceTypes := #[]
  staticTypes := #[(.object "java/io/InputStream"), (.object "java/io/PrintStream"), (.object "java/io/PrintStream"), (.object "java/io/InputStream"), .int, .int, .int, (.object "java/lang/SecurityManager"), (.object "java/lang/String"), (.object "java/io/Console"), (.object "java/io/PrintStream"), (.object "java/util/Properties"), (.object "java/lang/String"), (.object "java/lang/ModuleLayer")]
  resolved := Array.replicate 834 none
  statics := none }

def pool4 : Array CpInfo := pool [(1, .class_ 2), (0, u "java/lang/Math"), (1, .class_ 6), (1, u "java/lang/Object"), (0, u "<init>"), (0, u "()V"), (89, .class_ 100), (1, u "java/lang/Math$RandomNumberGeneratorHolder"), (71, u "negativeZeroFloatBits"), (0, u "J"), (2, u "negativeZeroDoubleBits"), (21, u "max"), (2, u "min"), (43, u "$assertionsDisabled"), (0, u "Z"), (88, u "(II)I"), (2, u "twoToTheDoubleScaleDown"), (0, u "D"), (4, u "twoToTheDoubleScaleUp"), (9, u "E"), (3, u "PI"), (2, u "TAU"), (2, u "DEGREES_TO_RADIANS"), (0, u "RADIANS_TO_DEGREES")] 94

def k4m0 : Method := { name := "<init>", desc := "()V", sig := { parameters := [], returnType := none }, accessFlags := 2, code := none }
def k4c1 : Code := { maxStack := 2, maxLocals := 2, code := jdk_29_method_65_code, exceptionTable := #[], attributes := #[] }
def k4m1 : Method := { name := "max", desc := "(II)I", sig := { parameters := [.int, .int], returnType := some .int }, accessFlags := 9, code := some k4c1 }
def k4c2 : Code := { maxStack := 2, maxLocals := 2, code := jdk_29_method_69_code, exceptionTable := #[], attributes := #[] }
def k4m2 : Method := { name := "min", desc := "(II)I", sig := { parameters := [.int, .int], returnType := some .int }, accessFlags := 9, code := some k4c2 }
/-- java/lang/Math -/
def k4 : Class := { plain "java/lang/Math" (some 0) with
  accessFlags := 49
  interfaces := #[]
  cf := some (fileOf pool4 1 #[.nestMembers #[98]] #[{ accessFlags := 2, nameIndex := 7, descriptorIndex := 8, attributes := #[] }, { accessFlags := 9, nameIndex := 198, descriptorIndex := 335, attributes := #[] }, { accessFlags := 9, nameIndex := 201, descriptorIndex := 335, attributes := #[] }] 49 4 #[] #[{ accessFlags := 25, nameIndex := 354, descriptorIndex := 339, attributes := #[] }, { accessFlags := 25, nameIndex := 358, descriptorIndex := 339, attributes := #[] }, { accessFlags := 25, nameIndex := 361, descriptorIndex := 339, attributes := #[] }, { accessFlags := 26, nameIndex := 364, descriptorIndex := 339, attributes := #[] }, { accessFlags := 26, nameIndex := 365, descriptorIndex := 339, attributes := #[] }, { accessFlags := 26, nameIndex := 172, descriptorIndex := 173, attributes := #[] }, { accessFlags := 26, nameIndex := 176, descriptorIndex := 173, attributes := #[] }, { accessFlags := 8, nameIndex := 344, descriptorIndex := 339, attributes := #[] }, { accessFlags := 8, nameIndex := 338, descriptorIndex := 339, attributes := #[] }, { accessFlags := 4120, nameIndex := 245, descriptorIndex := 246, attributes := #[] }])
  fields := #[{ name := "E", type := .double, accessFlags := 25, slot := 0, constantValue := 0 }, { name := "PI", type := .double, accessFlags := 25, slot := 1, constantValue := 0 }, { name := "TAU", type := .double, accessFlags := 25, slot := 2, constantValue := 0 }, { name := "DEGREES_TO_RADIANS", type := .double, accessFlags := 26, slot := 3, constantValue := 0 }, { name := "RADIANS_TO_DEGREES", type := .double, accessFlags := 26, slot := 4, constantValue := 0 }, { name := "negativeZeroFloatBits", type := .long, accessFlags := 26, slot := 5, constantValue := 0 }, { name := "negativeZeroDoubleBits", type := .long, accessFlags := 26, slot := 6, constantValue := 0 }, { name := "twoToTheDoubleScaleUp", type := .double, accessFlags := 8, slot := 7, constantValue := 0 }, { name := "twoToTheDoubleScaleDown", type := .double, accessFlags := 8, slot := 8, constantValue := 0 }, { name := "$assertionsDisabled", type := .boolean, accessFlags := 4120, slot := 9, constantValue := 0 }]
  methods := #[k4m0, k4m1, k4m2]
  instanceTypes := #[]
  staticTypes := #[.double, .double, .double, .double, .double, .long, .long, .double, .double, .boolean]
  resolved := Array.replicate 460 none
  statics := none }

def pool5 : Array CpInfo := pool [(2, .class_ 4), (1, u "java/lang/Object"), (0, u "<init>"), (0, u "()V"), (7, .class_ 16), (1, u "java/util/Arrays"), (57, .class_ 76), (1, u "java/util/Arrays$NaturalOrder"), (36, .class_ 115), (1, u "java/util/Arrays$LegacyMergeSort"), (1, u "Z"), (32, .methodref 151 152), (0, .class_ 153), (0, .nameAndType 154 155), (0, u "java/lang/System"), (0, u "arraycopy"), (0, u "(Ljava/lang/Object;ILjava/lang/Object;II)V"), (146, u "copyOf"), (1, .methodref 305 306), (0, .class_ 307), (0, .nameAndType 308 309), (0, u "java/lang/Math"), (0, u "min"), (0, u "(II)I"), (65, .class_ 376), (0, u "java/util/Arrays$ArrayList"), (68, u "$assertionsDisabled"), (269, u "MIN_ARRAY_SORT_GRAN"), (0, u "I"), (2, u "INSERTIONSORT_THRESHOLD"), (149, u "([BI)[B"), (105, .class_ 976), (0, u "java/util/Arrays$ArrayItr")] 52

def k5m0 : Method := { name := "<init>", desc := "()V", sig := { parameters := [], returnType := none }, accessFlags := 2, code := none }
def k5c1 : Code := { maxStack := 6, maxLocals := 3, code := jdk_65_method_121_code, exceptionTable := #[], attributes := #[] }
def k5m1 : Method := { name := "copyOf", desc := "([BI)[B", sig := { parameters := [(.array .byte), .int], returnType := some (.array .byte) }, accessFlags := 9, code := some k5c1 }
/-- java/util/Arrays -/
def k5 : Class := { plain "java/util/Arrays" (some 0) with
  accessFlags := 49
  interfaces := #[]
  cf := some (fileOf pool5 14 #[.nestMembers #[975, 375, 113, 74]] #[{ accessFlags := 2, nameIndex := 5, descriptorIndex := 6, attributes := #[] }, { accessFlags := 9, nameIndex := 302, descriptorIndex := 869, attributes := #[] }] 49 2 #[] #[{ accessFlags := 26, nameIndex := 715, descriptorIndex := 716, attributes := #[] }, { accessFlags := 26, nameIndex := 719, descriptorIndex := 716, attributes := #[] }, { accessFlags := 4120, nameIndex := 445, descriptorIndex := 117, attributes := #[] }])
  fields := #[{ name := "MIN_ARRAY_SORT_GRAN", type := .int, accessFlags := 26, slot := 0, constantValue := 0 }, { name := "INSERTIONSORT_THRESHOLD", type := .int, accessFlags := 26, slot := 1, constantValue := 0 }, { name := "$assertionsDisabled", type := .boolean, accessFlags := 4120, slot := 2, constantValue := 0 }]
  methods := #[k5m0, k5m1]
  instanceTypes := #[]
  staticTypes := #[.int, .int, .boolean]
  resolved := Array.replicate 1029 none
  statics := none }

def pool6 : Array CpInfo := pool [(1, u "java/lang/Cloneable"), (0, .class_ 1), (0, u "java/lang/Object"), (0, .class_ 3)] 3

/-- java/lang/Cloneable -/
def k6 : Class := { plain "java/lang/Cloneable" (some 0) with
  accessFlags := 1537
  interfaces := #[]
  cf := some (fileOf pool6 2 #[] #[] 1537 4 #[] #[])
  fields := #[]
  methods := #[]
  instanceTypes := #[]
  staticTypes := #[]
  resolved := Array.replicate 8 none
  statics := none }

def pool7 : Array CpInfo := pool [(1, u "java/io/Serializable"), (0, .class_ 1), (0, u "java/lang/Object"), (0, .class_ 3)] 3

/-- java/io/Serializable -/
def k7 : Class := { plain "java/io/Serializable" (some 0) with
  accessFlags := 1537
  interfaces := #[]
  cf := some (fileOf pool7 2 #[] #[] 1537 4 #[] #[])
  fields := #[]
  methods := #[]
  instanceTypes := #[]
  staticTypes := #[]
  resolved := Array.replicate 8 none
  statics := none }

/-- the primitive byte -/
def k8 : Class := { plain "byte" none with kind := .primitive 'B', accessFlags := 0x411 }
/-- [B -/
def k9 : Class := { plain "[B" (some 0) with kind := .array 8 .byte, interfaces := #[6, 7], accessFlags := 1041 }

/-- the primitive int -/
def k10 : Class := { plain "int" none with kind := .primitive 'I', accessFlags := 0x411 }
/-- [I -/
def k11 : Class := { plain "[I" (some 0) with kind := .array 10 .int, interfaces := #[6, 7], accessFlags := 1041 }

def heap : Heap := #[]
def classes : Array Class := #[k0, k1, k2, k3, k4, k5, k6, k7, k8, k9, k10, k11]
def interned : List (Array UInt16 × Addr) := []
def slotsUsed : Nat := 0
def theMethod : MethodId := ⟨1, 1⟩
def args0 : Array Value := #[.int 5, .int 5, .int 5, .int 5, .int 5]
def aboutOver (below : List Frame) : State where
  vm := { classes := classes, interned := interned.toArray }
  heap := heap
  slotsUsed := slotsUsed
  threads := #[{ frames := .invoking theMethod args0 :: below }]
def below0 : List Frame := [.native { method := ⟨0, 0⟩, args := #[] }]
def about1 : State := aboutOver below0
def p0 : Program := .bare "" "" ""
def e0 : Env := launch0.env 0 0 0
theorem w_frames : about1.frames = Frame.invoking theMethod args0 :: below0 := rfl
set_option maxRecDepth 65536 in
theorem w_args : argsFit about1.vm theMethod args0 = true := by decide +kernel
set_option maxRecDepth 65536 in
theorem w_heap : heapFits about1 = true := by decide +kernel
set_option maxRecDepth 65536 in
theorem w_runnable : about1.curStatus? = some .runnable := by decide +kernel
set_option maxRecDepth 65536 in
theorem w_alone : about1.alone = true := by decide +kernel
set_option maxRecDepth 65536 in
theorem w_named : about1.methodNamed? x = some theMethod := by decide +kernel
set_option maxRecDepth 65536 in
theorem w_hears : about1.hears theMethod below0 = true := by decide +kernel
set_option maxRecDepth 65536 in
theorem w_ripe : about1.ripe theMethod args0 below0 = true := by decide +kernel
theorem w_running : about1.status = .running := rfl
set_option maxRecDepth 65536 in
theorem w_room : about1.hasRoom e0.platform room_1 = true :=
  launch0.hasRoom_least _ room_1 (by decide +kernel) (by decide +kernel) (by decide +kernel) (by decide +kernel) (by decide +kernel) (by decide +kernel)
theorem allAtoms_all (ts : List Jvm.Cond) (a : Array Jvm.Value) (st : Jvm.State) : (allAtoms ts).before a st = ts.all (fun c => c.before a st) := by
  induction ts with
  | nil => rfl
  | cons c t ih =>
    show (Jvm.Cond.and c (allAtoms t)).before a st = _
    rw [Jvm.Cond.before_and, ih, List.all_cons]
def words1 : List Jvm.Cond := Jvm.Cond.code x code maxLocals ret :: tables_1
/-- a 'code' word, met by the world's own term for the bytes: nothing is compared byte by byte -/
theorem code_word {y : MethodName} {bytes : ByteArray} {mx : Nat} {rt : Option FieldType} {a : Array Value} {s : State} {m : MethodId} {meth : Method} {c : Code} (h1 : s.methodNamed? y = some m) (h2 : s.vm.method? m = some meth) (h3 : meth.code = some c) (h4 : c.code = bytes)
    (h5 : (c.maxLocals == mx && c.exceptionTable.isEmpty && decide (c.maxStack ≤ mostOperands) && decide (meth.sig.returnType = rt) && !meth.locks && decide (parseMethodDescriptor y.desc = some meth.sig)) = true) : (Jvm.Cond.code y bytes mx rt).before a s = true := by
  simp only [Bool.and_eq_true, beq_iff_eq, Bool.not_eq_true', decide_eq_true_eq] at h5
  obtain ⟨⟨⟨⟨⟨g1, g2⟩, g3⟩, g4⟩, g5⟩, g6⟩ := h5
  simp [Cond.before, Cond.holds, Cond.value, h1, h2, h3, h4, g1, g2, g3, g4, g5, g6]
def isCode : Jvm.Cond → Bool
  | .code _ _ _ _ => true
  | _ => false
theorem all_split {L : List Jvm.Cond} {P : Jvm.Cond → Bool} (h1 : L.all (fun c => isCode c || P c) = true) (h2 : ∀ c ∈ L.filter isCode, P c = true) : L.all P = true := by
  refine List.all_eq_true.mpr fun c hc => ?_
  have h := List.all_eq_true.mp h1 c hc
  rcases Bool.eq_false_or_eq_true (isCode c) with hi | hi
  · exact h2 c (List.mem_filter.mpr ⟨hc, hi⟩)
  · simpa [hi] using h
set_option maxRecDepth 65536 in
theorem w_c0 : (Jvm.Cond.code x code maxLocals ret).before args0 about1 = true := code_word (m := ⟨1, 1⟩) (meth := k1m1) (c := k1c1) (by decide +kernel) rfl rfl rfl (by decide +kernel)
set_option maxRecDepth 65536 in
theorem w_c1 : (Jvm.Cond.code ({ cls := "com/example/labrelay/labrelay/Bytes", name := "<init>", desc := "()V" } : Jvm.MethodName) prog_1_method_1_code (1 : Nat) (Option.none : Option Jvm.ClassFile.FieldType)).before args0 about1 = true := code_word (m := ⟨2, 0⟩) (meth := k2m0) (c := k2c0) (by decide +kernel) rfl rfl rfl (by decide +kernel)
set_option maxRecDepth 65536 in
theorem w_c2 : (Jvm.Cond.code ({ cls := "java/lang/Object", name := "<init>", desc := "()V" } : Jvm.MethodName) object_method_1_code (1 : Nat) (Option.none : Option Jvm.ClassFile.FieldType)).before args0 about1 = true := code_word (m := ⟨0, 0⟩) (meth := k0m0) (c := k0c0) (by decide +kernel) rfl rfl rfl (by decide +kernel)
set_option maxRecDepth 65536 in
theorem w_c3 : (Jvm.Cond.code ({ cls := "com/example/labrelay/labrelay/Bytes", name := "write", desc := "([BII)V" } : Jvm.MethodName) prog_1_method_3_code (4 : Nat) (Option.none : Option Jvm.ClassFile.FieldType)).before args0 about1 = true := code_word (m := ⟨2, 2⟩) (meth := k2m2) (c := k2c2) (by decide +kernel) rfl rfl rfl (by decide +kernel)
set_option maxRecDepth 65536 in
theorem w_c4 : (Jvm.Cond.code ({ cls := "com/example/labrelay/labrelay/Bytes", name := "write", desc := "(B)V" } : Jvm.MethodName) prog_1_method_2_code (2 : Nat) (Option.none : Option Jvm.ClassFile.FieldType)).before args0 about1 = true := code_word (m := ⟨2, 1⟩) (meth := k2m1) (c := k2c1) (by decide +kernel) rfl rfl rfl (by decide +kernel)
set_option maxRecDepth 65536 in
theorem w_c5 : (Jvm.Cond.code ({ cls := "com/example/labrelay/labrelay/Bytes", name := "size", desc := "()I" } : Jvm.MethodName) prog_1_method_4_code (1 : Nat) (Option.some Jvm.ClassFile.FieldType.int)).before args0 about1 = true := code_word (m := ⟨2, 3⟩) (meth := k2m3) (c := k2c3) (by decide +kernel) rfl rfl rfl (by decide +kernel)
set_option maxRecDepth 65536 in
theorem w_c6 : (Jvm.Cond.code ({ cls := "com/example/labrelay/labrelay/Bytes", name := "at", desc := "(I)B" } : Jvm.MethodName) prog_1_method_5_code (2 : Nat) (Option.some Jvm.ClassFile.FieldType.byte)).before args0 about1 = true := code_word (m := ⟨2, 4⟩) (meth := k2m4) (c := k2c4) (by decide +kernel) rfl rfl rfl (by decide +kernel)
set_option maxRecDepth 65536 in
theorem w_c7 : (Jvm.Cond.code ({ cls := "java/lang/Math", name := "max", desc := "(II)I" } : Jvm.MethodName) jdk_29_method_65_code (2 : Nat) (Option.some Jvm.ClassFile.FieldType.int)).before args0 about1 = true := code_word (m := ⟨4, 1⟩) (meth := k4m1) (c := k4c1) (by decide +kernel) rfl rfl rfl (by decide +kernel)
set_option maxRecDepth 65536 in
theorem w_c8 : (Jvm.Cond.code ({ cls := "java/util/Arrays", name := "copyOf", desc := "([BI)[B" } : Jvm.MethodName) jdk_65_method_121_code (3 : Nat) (Option.some (Jvm.ClassFile.FieldType.array Jvm.ClassFile.FieldType.byte))).before args0 about1 = true := code_word (m := ⟨5, 1⟩) (meth := k5m1) (c := k5c1) (by decide +kernel) rfl rfl rfl (by decide +kernel)
set_option maxRecDepth 65536 in
theorem w_c9 : (Jvm.Cond.code ({ cls := "java/lang/Math", name := "min", desc := "(II)I" } : Jvm.MethodName) jdk_29_method_69_code (2 : Nat) (Option.some Jvm.ClassFile.FieldType.int)).before args0 about1 = true := code_word (m := ⟨4, 2⟩) (meth := k4m2) (c := k4c2) (by decide +kernel) rfl rfl rfl (by decide +kernel)
def codes1 : List Jvm.Cond := [Jvm.Cond.code x code maxLocals ret, Jvm.Cond.code ({ cls := "com/example/labrelay/labrelay/Bytes", name := "<init>", desc := "()V" } : Jvm.MethodName) prog_1_method_1_code (1 : Nat) (Option.none : Option Jvm.ClassFile.FieldType), Jvm.Cond.code ({ cls := "java/lang/Object", name := "<init>", desc := "()V" } : Jvm.MethodName) object_method_1_code (1 : Nat) (Option.none : Option Jvm.ClassFile.FieldType), Jvm.Cond.code ({ cls := "com/example/labrelay/labrelay/Bytes", name := "write", desc := "([BII)V" } : Jvm.MethodName) prog_1_method_3_code (4 : Nat) (Option.none : Option Jvm.ClassFile.FieldType), Jvm.Cond.code ({ cls := "com/example/labrelay/labrelay/Bytes", name := "write", desc := "(B)V" } : Jvm.MethodName) prog_1_method_2_code (2 : Nat) (Option.none : Option Jvm.ClassFile.FieldType), Jvm.Cond.code ({ cls := "com/example/labrelay/labrelay/Bytes", name := "size", desc := "()I" } : Jvm.MethodName) prog_1_method_4_code (1 : Nat) (Option.some Jvm.ClassFile.FieldType.int), Jvm.Cond.code ({ cls := "com/example/labrelay/labrelay/Bytes", name := "at", desc := "(I)B" } : Jvm.MethodName) prog_1_method_5_code (2 : Nat) (Option.some Jvm.ClassFile.FieldType.byte), Jvm.Cond.code ({ cls := "java/lang/Math", name := "max", desc := "(II)I" } : Jvm.MethodName) jdk_29_method_65_code (2 : Nat) (Option.some Jvm.ClassFile.FieldType.int), Jvm.Cond.code ({ cls := "java/util/Arrays", name := "copyOf", desc := "([BI)[B" } : Jvm.MethodName) jdk_65_method_121_code (3 : Nat) (Option.some (Jvm.ClassFile.FieldType.array Jvm.ClassFile.FieldType.byte)), Jvm.Cond.code ({ cls := "java/lang/Math", name := "min", desc := "(II)I" } : Jvm.MethodName) jdk_29_method_69_code (2 : Nat) (Option.some Jvm.ClassFile.FieldType.int)]
set_option maxRecDepth 65536 in
theorem codes_eq : words1.filter isCode = codes1 := rfl
theorem w_codes : ∀ c ∈ words1.filter isCode, c.before args0 about1 = true := by
  rw [codes_eq]
  intro c hc
  simp only [codes1, List.mem_cons, List.not_mem_nil, or_false] at hc
  rcases hc with rfl | rfl | rfl | rfl | rfl | rfl | rfl | rfl | rfl | rfl
  · exact w_c0
  · exact w_c1
  · exact w_c2
  · exact w_c3
  · exact w_c4
  · exact w_c5
  · exact w_c6
  · exact w_c7
  · exact w_c8
  · exact w_c9
set_option maxRecDepth 65536 in
theorem w_t1 : (words1.take 24).all (fun c => isCode c || c.before args0 about1) = true := by decide +kernel
set_option maxRecDepth 65536 in
theorem w_t2 : ((words1.drop 24).take 24).all (fun c => isCode c || c.before args0 about1) = true := by decide +kernel
set_option maxRecDepth 65536 in
theorem w_t3 : ((words1.drop 24).drop 24).all (fun c => isCode c || c.before args0 about1) = true := by decide +kernel
theorem w_tables : (allAtoms (Jvm.Cond.code x code maxLocals ret :: tables_1)).before args0 about1 = true := by
  rw [allAtoms_all]
  show words1.all (fun c => c.before args0 about1) = true
  refine all_split ?_ w_codes
  rw [← List.take_append_drop 24 words1, List.all_append, w_t1, ← List.take_append_drop 24 (words1.drop 24), List.all_append, w_t2, w_t3]
  rfl
set_option maxRecDepth 65536 in
theorem w_case : (Jvm.Cond.and given_1 narrow_1).before args0 about1 = true := by decide +kernel
theorem w_applies : (headSpec (Jvm.Cond.code x code maxLocals ret :: tables_1) room_1).applies x e0.platform about1 = true :=
  (Spec.applies_iff w_frames).mpr ⟨w_running, w_runnable, w_alone, w_named, w_hears, w_ripe, w_room, w_tables⟩
theorem atStart : AtStart classFile x code maxLocals ret World_1 tables_1 room_1 Calls_1 rest_1 Pre_1 launch0 p0 e0 about1 theMethod args0 below0 :=
  ⟨lists_1, trivial, launch0.admits_env _ _ _, launch0.least_env, fairChoices_fair.cas, fairChoices_fair.clock, w_frames, w_args, w_heap, w_applies, trivial, trivial, w_case⟩
end start1
theorem witness_1 : WitnessClaimed_1 := ⟨start1.p0, start1.e0, start1.about1, start1.theMethod, start1.args0, start1.below0, start1.atStart⟩
end Jvm.Pilot.@@N@@
